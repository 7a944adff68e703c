/- Contracts of spec.VectorOf at vectors of bits. -/
import Derived.Test.YtjjfdamlicoeeaaDoorVecM
set_option linter.unusedVariables false
set_option linter.unusedSimpArgs false
set_option maxRecDepth 100000
namespace Go.Proofs.YtjjfdamlicoeeaaDoor.X
open Go.RowKit Go.Deep Go.Proofs.YtjjfdamlicoeeaaDoorW.PrintLast
def R19.T25 : Bool × List (List Nat × List Nat) := (true, [([], []), ([], []), ([0, 1], [0, 1]), ([], []), ([3], [3]), ([4], [4]), ([5], [5]), ([0, 1, 2], []), ([7, 2, 2, 0, 1, 2], [2, 7]), ([0, 1, 2, 3, 4, 5, 6, 7, 8], []), ([9, 6, 8, 0, 1, 2, 3, 4, 5, 6, 7, 8], [6, 9])])
def R19.B25 : List Nat := [0, 0, 3, 0, 8, 24, 56, 7, 135, 511, 1023]
theorem R19.tab25 : rtab .any (opsOf Tryd.f19 25) = R19.T25 := by kernel_rfl
theorem R19.bits25 : waitsOk R19.T25.2 R19.B25 = true := by kernel_rfl
theorem ob_none (w : World) (base : Nat) (hb : base = w.heap.size) : OB 5 (w.alloc (.cells #[] 5)) base (.slice (some ⟨base, 0, none⟩) 0 0) [] := by
  subst hb
  exact OB.lit_ (E := 5) w w.heap.size (Nat.le_refl _) [] [] rfl (by simp) 0 rfl
set_option maxHeartbeats 1000000 in
theorem specOf16 (A : Option Addr) (c : Nat) (p : UInt8) (r : List UInt8) (w : World) (hs : SB w A c (16 :: p :: r)) (hp : p.toNat ≤ 7) (hp2 : p.toNat = 0 ∨ 0 < r.length) (hl : r.length ≤ 1000000) :
    Calls Tryd.prog 19 #[.int .i64 9, .slice A (r.length + 2) c] w fun e w' => ∃ A' c', e = .returned (.tuple #[ivec16 A' r.length c' p.toNat, .bool true]) ∧ SB w' A' c' r ∧ Below w.heap.size w w' := by
  obtain ⟨b, off, rfl, hc⟩ := hs.cells (by simp)
  have hc0 := hc 0 (by simp)
  have hc1 := hc 1 (by simp)
  simp at hc0 hc1
  have hblt : b < w.heap.size := World.block_lt_of_cell? w _ hc0
  have hb1 : b < w.heap.size + 1 := by omega
  have hb2 : b < w.heap.size + 1 + 1 := by omega
  obtain ⟨A1, e1, s1⟩ := SB.from_ (P := Tryd.prog) Tryd.underlying38 rfl rfl .i64 (some ⟨b, off, none⟩) c (16 :: p :: r) 2 (by simp) hs.le
  have HS1 := Lib.hid (s1 w hs)
  have hle := hs.le
  have hcap := hs.cap
  simp only [List.length_cons, show r.length + 1 + 1 - 2 = r.length from by omega, Int.cast_ofNat_Int] at e1 hle
  obtain ⟨q, hq⟩ : ∃ q, q = r.length := ⟨_, rfl⟩
  obtain ⟨y, hy⟩ : ∃ y : Int, y = (p.toNat : Int) := ⟨_, rfl⟩
  rw [← hq] at e1 hle hl hp2
  rw [← hy] at hc1
  rw [← hq, ← hy]
  have hyb : 0 ≤ y ∧ y ≤ 7 := by omega
  have hix : ((1 : Int) < (q : Int) + 2) = True := by simp; omega
  have hix2 : (1 < q + 2) = True := by simp
  have hwy : wrap64 y = y := by unfold wrap64; omega
  have d7 : decide ((7 : Int) < y) = false := by simp; omega
  have d1 : (decide ((0 : Int) < y) = false) ∨ (decide ((0 : Int) < y) = true ∧ ((q : Int) == 0) = false) := by
    by_cases h0 : (0 : Int) < y
    · exact .inr ⟨by simpa using h0, by rw [beq_eq_false_iff_ne]; omega⟩
    · exact .inl (by simpa using h0)
  have hlt2 : decide ((q : Int) + 2 < 2) = false := by simp; omega
  have HQ := Lib.hid hq
  clear hq hy hs hc s1 hp hp2
  rcases d1 with d1 | ⟨d1, d2⟩
  · go_enter Tryd.func19, Tryd.ntmps19
    go_wp2_with fail
    refine start_ (n := 11) (S := fun w' => w'.cell? ⟨b, off + 1, none⟩ = some (.int .u8 y)) (ds := [10]) #[false, false, false, false, false, false, false, false, false, false, false] (by kernel_rfl) rfl rfl ((by go_simp)) (fun hHeld => ?_)
    refine with_tabW R19.tab25 R19.bits25 (fun HT_ HW_ => ?_)
    refine pure_ (i := 1) (N := some 123) (v := ?_) (a' := ?_) #[false, true, false, false, false, false, false, false, false, false, false] rfl rfl (any_of HT_.out (by kernel_rfl)) (fun _ _ _ h => h) (Or.inl ⟨by rfl, ?_⟩) ?_ ?_
    rotate_left
    · intro w'
      go_simp
      with_reducible rfl
    rotate_left
    · simp only [Act.put, List.setIfInBounds_toArray, List.set_cons_zero, List.set_cons_succ, i64_w, i32_w]
      rfl
    refine pure_ (i := 3) (N := some 125) (v := ?_) (a' := ?_) #[false, true, false, true, false, false, false, false, false, false, false] rfl rfl (any_of HT_.out (by kernel_rfl)) (fun _ _ _ h => h) (Or.inl ⟨by rfl, ?_⟩) ?_ ?_
    rotate_left
    · intro w'
      go_simp
      with_reducible rfl
    rotate_left
    · simp only [Act.put, List.setIfInBounds_toArray, List.set_cons_zero, List.set_cons_succ, i64_w, i32_w]
      rfl
    refine pure_ (i := 4) (N := some 126) (v := ?_) (a' := ?_) #[false, true, false, true, true, false, false, false, false, false, false] rfl rfl (any_of HT_.out (by kernel_rfl)) (fun _ _ _ h => h) (Or.inl ⟨by rfl, ?_⟩) ?_ ?_
    rotate_left
    · intro w'
      go_simp
      with_reducible rfl
    rotate_left
    · simp only [Act.put, List.setIfInBounds_toArray, List.set_cons_zero, List.set_cons_succ, i64_w, i32_w]
      rfl
    refine take_ (i := 5) (N := some 127) (v := ?_) (a' := ?_) #[false, true, false, true, true, true, false, false, false, false, false] rfl rfl (take_ofW HT_.out HW_.out (by kernel_rfl)) (fun _ _ _ h => h) (Or.inl ⟨by rfl, ?_⟩) hHeld ?_ ?_
    rotate_left
    · intro w' s0
      go_simp
      with_reducible rfl
    rotate_left
    · simp only [Act.put, List.setIfInBounds_toArray, List.set_cons_zero, List.set_cons_succ, i64_w, i32_w]
      rfl
    refine pure_ (i := 6) (N := some 128) (v := ?_) (a' := ?_) #[false, true, false, true, true, true, true, false, false, false, false] rfl rfl (any_of HT_.out (by kernel_rfl)) (fun _ _ _ h => h) (Or.inl ⟨by rfl, ?_⟩) ?_ ?_
    rotate_left
    · intro w'
      go_simp
      with_reducible rfl
    rotate_left
    · simp only [Act.put, List.setIfInBounds_toArray, List.set_cons_zero, List.set_cons_succ, i64_w, i32_w]
      rfl
    refine one_ (i := 0) (N := some 122) #[true, true, false, true, true, true, true, false, false, false, false] rfl rfl (one_of HT_.out (by kernel_rfl)) (by decide) (fun K hK => ?_)
    refine value_ (w1 := ?_) (v := ?_) (by rfl) rfl ?_ ?_
    rotate_left 2
    · go_simp
      constructor
      · rfl
      · rfl
    refine hK.out _ _ ((((balloc (Below.refl _ _) (Nat.le_refl _) _).cell (World.block_lt_of_cell? _ _ hHeld)).trans hHeld)) (fun hHeld => ?_)
    clear hK K
    refine norm_ (a' := ?_) ?_ ?_
    rotate_left
    · show Act.put _ (some 122) _ = _
      simp only [Act.put, List.setIfInBounds_toArray, List.set_cons_zero, List.set_cons_succ, i64_w, i32_w]
      rfl
    refine one_ (i := 2) (N := some 124) #[true, true, true, true, true, true, true, false, false, false, false] rfl rfl (one_of HT_.out (by kernel_rfl)) (by decide) (fun K hK => ?_)
    refine app_step (.tmp 122) (.tmp 123) 38 (by rfl) rfl rfl infoU8 Tryd.underlying38 _ (w.heap.size + 1 + 1) (.slice (some ⟨w.heap.size + 1 + 1, 0, none⟩) 0 0) [] A1 (c - 2) r rfl (by rw [← HQ.out]; rfl) (ob_none (((w.alloc (.cells #[.int .i64 0, .slice none 0 0, .slice none 0 0, .slice none 0 0, .int .i64 0] 42)).alloc (.cells #[.int .i64 16, .slice none 0 0, .slice none 0 0, .slice none 0 0, .int .i64 0] 42)).drew) (w.heap.size + 1 + 1) (by simp)) (HS1.out.keep (balloc (bdrew (balloc (balloc (Below.refl _ w) (Nat.le_refl _) _) (by simp) _)) (by simp; omega) _)) (by simp) (by have := HQ.out; simp; omega) ?_
    intro v5 w5 hap
    obtain ⟨A5, c5, hv5, hs5, hn5⟩ := hap.own.sb
    have hk5 := hap.kept (ob_none (((w.alloc (.cells #[.int .i64 0, .slice none 0 0, .slice none 0 0, .slice none 0 0, .int .i64 0] 42)).alloc (.cells #[.int .i64 16, .slice none 0 0, .slice none 0 0, .slice none 0 0, .int .i64 0] 42)).drew) (w.heap.size + 1 + 1) (by simp)) (by simp)
    rw [List.nil_append, ← HQ.out] at hv5
    rw [List.nil_append] at hs5
    have HS5 := Lib.hid hs5
    have HN5 : Hid (∀ a, A5 = some a → w.heap.size + 1 + 1 ≤ a.block) := Lib.hid fun a ha => (hn5 a ha).1
    have HB5 := Lib.hid ((balloc (bdrew (balloc (balloc (Below.refl _ w) (Nat.le_refl _) _) (by simp) _)) (by simp; omega) _).trans (hk5.mono (by omega)))
    have R5 : w.heap.size + 1 < w5.heap.size := by have := hk5.size; simp at this; omega
    have R50 : w.heap.size < w5.heap.size := by omega
    have x0 : w5.cell? ⟨w.heap.size + 1, 0, none⟩ = some (.int .i64 16) := by rw [hk5.cell (p := ⟨w.heap.size + 1, 0, none⟩) (by simp)]; simp [go_sem]
    have x1 : w5.cell? ⟨w.heap.size + 1, 1, none⟩ = some (.slice none 0 0) := by rw [hk5.cell (p := ⟨w.heap.size + 1, 1, none⟩) (by simp)]; simp [go_sem]
    have x2 : w5.cell? ⟨w.heap.size + 1, 2, none⟩ = some (.slice none 0 0) := by rw [hk5.cell (p := ⟨w.heap.size + 1, 2, none⟩) (by simp)]; simp [go_sem]
    have x3 : w5.cell? ⟨w.heap.size + 1, 3, none⟩ = some (.slice none 0 0) := by rw [hk5.cell (p := ⟨w.heap.size + 1, 3, none⟩) (by simp)]; simp [go_sem]
    have x4 : w5.cell? ⟨w.heap.size + 1, 4, none⟩ = some (.int .i64 0) := by rw [hk5.cell (p := ⟨w.heap.size + 1, 4, none⟩) (by simp)]; simp [go_sem]
    have r0 : w5.cell? ⟨w.heap.size, 0, none⟩ = some (.int .i64 0) := by rw [hk5.cell (p := ⟨w.heap.size, 0, none⟩) (by show w.heap.size < _; omega)]; simp [go_sem]
    have r1 : w5.cell? ⟨w.heap.size, 1, none⟩ = some (.slice none 0 0) := by rw [hk5.cell (p := ⟨w.heap.size, 1, none⟩) (by show w.heap.size < _; omega)]; simp [go_sem]
    have r2 : w5.cell? ⟨w.heap.size, 2, none⟩ = some (.slice none 0 0) := by rw [hk5.cell (p := ⟨w.heap.size, 2, none⟩) (by show w.heap.size < _; omega)]; simp [go_sem]
    have r3 : w5.cell? ⟨w.heap.size, 3, none⟩ = some (.slice none 0 0) := by rw [hk5.cell (p := ⟨w.heap.size, 3, none⟩) (by show w.heap.size < _; omega)]; simp [go_sem]
    have r4 : w5.cell? ⟨w.heap.size, 4, none⟩ = some (.int .i64 0) := by rw [hk5.cell (p := ⟨w.heap.size, 4, none⟩) (by show w.heap.size < _; omega)]; simp [go_sem]
    have rf : ∀ o, w5.frozen? ⟨w.heap.size, o, none⟩ = false := fun o => by rw [hk5.frozen (p := ⟨w.heap.size, o, none⟩) (by show w.heap.size < _; omega)]; simp [go_sem]
    have xf : ∀ o, w5.frozen? ⟨w.heap.size + 1, o, none⟩ = false := fun o => by rw [hk5.frozen (p := ⟨w.heap.size + 1, o, none⟩) (by simp)]; simp [go_sem]
    subst hv5
    have hkb : w5.cell? ⟨b, off + 1, none⟩ = some (.int .u8 y) := (hk5.cell (p := ⟨b, off + 1, none⟩) (by show b < w.heap.size + 1 + 1; omega)).trans hHeld
    clear hap hs5 hn5 hk5
    refine hK.out _ _ (hkb) (fun hHeld => ?_)
    clear hK K
    refine norm_ (a' := ?_) ?_ ?_
    rotate_left
    · show Act.put _ (some 124) _ = _
      simp only [Act.put, List.setIfInBounds_toArray, List.set_cons_zero, List.set_cons_succ, i64_w, i32_w]
      rfl
    refine pure_ (i := 7) (N := some 129) (v := ?_) (a' := ?_) #[true, true, true, true, true, true, true, true, false, false, false] rfl rfl (any_of HT_.out (by kernel_rfl)) (fun _ _ _ h => h) (Or.inl ⟨by rfl, ?_⟩) ?_ ?_
    rotate_left
    · intro w'
      go_simp
      with_reducible rfl
    rotate_left
    · simp only [Act.put, List.setIfInBounds_toArray, List.set_cons_zero, List.set_cons_succ, i64_w, i32_w]
      rfl
    refine one_ (i := 8) (N := none) #[true, true, true, true, true, true, true, true, true, false, false] rfl rfl (one_of HT_.out (by kernel_rfl)) (by decide) (fun K hK => ?_)
    refine skip_ (w1 := ?_) (by rfl) rfl ?_ ?_
    rotate_left
    · go_simp
      rfl
    refine hK.out _ _ (((World.cell?_setCell_other _ _ _ _ (by intro e; injection e with e1 e2; omega)).trans hHeld)) (fun hHeld => ?_)
    clear hK K
    refine pure_ (i := 9) (N := some 130) (v := ?_) (a' := ?_) #[true, true, true, true, true, true, true, true, true, true, false] rfl rfl (any_of HT_.out (by kernel_rfl)) (fun _ _ _ h => h) (Or.inl ⟨by rfl, ?_⟩) ?_ ?_
    rotate_left
    · intro w'
      go_simp
      with_reducible rfl
    rotate_left
    · simp only [Act.put, List.setIfInBounds_toArray, List.set_cons_zero, List.set_cons_succ, i64_w, i32_w]
      rfl
    refine last_ (i := 10) (N := none) #[true, true, true, true, true, true, true, true, true, true, true] rfl rfl (one_of HT_.out (by kernel_rfl)) (by decide) (fun K hK => ?_)
    refine skip_ (w1 := ?_) (by rfl) rfl ?_ ?_
    rotate_left
    · go_simp
      rfl
    refine hK.out _ _ ?_
    clear hK K
    refine done_ (done_of HT_.out (by kernel_rfl)) ?_
    have nb1 : w.heap.size ≠ w.heap.size + 1 := by omega
    have nb2 : w.heap.size + 1 ≠ w.heap.size := by omega
    go_wp2_with fail
    have hbb : w.heap.size ≤ w.heap.size := Nat.le_refl _
    have hbo : w.heap.size ≤ w.heap.size + 1 := Nat.le_succ _
    have n1 : ∀ a, A5 = some a → a.block ≠ w.heap.size := fun a ha => by have := HN5.out a ha; omega
    have n2 : ∀ a, A5 = some a → a.block ≠ w.heap.size + 1 := fun a ha => by have := HN5.out a ha; omega
    exact bodyPost_ret (v := .tuple #[ivec16 A5 q c5 y, .bool true]) (by simp [results, Tryd.results19, go_sem, ivec16, r0, r1, r2, r3, r4, R5, R50, nb1, nb2]) rfl ⟨A5, c5, rfl, ((((((HS5.out.far n2 _).far n2 _).far n1 _).far n1 _).far n1 _).far n1 _).far n1 _, ((((((HB5.out.setCell hbo _).setCell hbo _).setCell hbb _).setCell hbb _).setCell hbb _).setCell hbb _).setCell hbb _⟩
  · go_enter Tryd.func19, Tryd.ntmps19
    go_wp2_with fail
    refine start_ (n := 11) (S := fun w' => w'.cell? ⟨b, off + 1, none⟩ = some (.int .u8 y)) (ds := [10]) #[false, false, false, false, false, false, false, false, false, false, false] (by kernel_rfl) rfl rfl ((by go_simp)) (fun hHeld => ?_)
    refine with_tabW R19.tab25 R19.bits25 (fun HT_ HW_ => ?_)
    refine pure_ (i := 1) (N := some 123) (v := ?_) (a' := ?_) #[false, true, false, false, false, false, false, false, false, false, false] rfl rfl (any_of HT_.out (by kernel_rfl)) (fun _ _ _ h => h) (Or.inl ⟨by rfl, ?_⟩) ?_ ?_
    rotate_left
    · intro w'
      go_simp
      with_reducible rfl
    rotate_left
    · simp only [Act.put, List.setIfInBounds_toArray, List.set_cons_zero, List.set_cons_succ, i64_w, i32_w]
      rfl
    refine pure_ (i := 3) (N := some 125) (v := ?_) (a' := ?_) #[false, true, false, true, false, false, false, false, false, false, false] rfl rfl (any_of HT_.out (by kernel_rfl)) (fun _ _ _ h => h) (Or.inl ⟨by rfl, ?_⟩) ?_ ?_
    rotate_left
    · intro w'
      go_simp
      with_reducible rfl
    rotate_left
    · simp only [Act.put, List.setIfInBounds_toArray, List.set_cons_zero, List.set_cons_succ, i64_w, i32_w]
      rfl
    refine pure_ (i := 4) (N := some 126) (v := ?_) (a' := ?_) #[false, true, false, true, true, false, false, false, false, false, false] rfl rfl (any_of HT_.out (by kernel_rfl)) (fun _ _ _ h => h) (Or.inl ⟨by rfl, ?_⟩) ?_ ?_
    rotate_left
    · intro w'
      go_simp
      with_reducible rfl
    rotate_left
    · simp only [Act.put, List.setIfInBounds_toArray, List.set_cons_zero, List.set_cons_succ, i64_w, i32_w]
      rfl
    refine take_ (i := 5) (N := some 127) (v := ?_) (a' := ?_) #[false, true, false, true, true, true, false, false, false, false, false] rfl rfl (take_ofW HT_.out HW_.out (by kernel_rfl)) (fun _ _ _ h => h) (Or.inl ⟨by rfl, ?_⟩) hHeld ?_ ?_
    rotate_left
    · intro w' s0
      go_simp
      with_reducible rfl
    rotate_left
    · simp only [Act.put, List.setIfInBounds_toArray, List.set_cons_zero, List.set_cons_succ, i64_w, i32_w]
      rfl
    refine pure_ (i := 6) (N := some 128) (v := ?_) (a' := ?_) #[false, true, false, true, true, true, true, false, false, false, false] rfl rfl (any_of HT_.out (by kernel_rfl)) (fun _ _ _ h => h) (Or.inl ⟨by rfl, ?_⟩) ?_ ?_
    rotate_left
    · intro w'
      go_simp
      with_reducible rfl
    rotate_left
    · simp only [Act.put, List.setIfInBounds_toArray, List.set_cons_zero, List.set_cons_succ, i64_w, i32_w]
      rfl
    refine one_ (i := 0) (N := some 122) #[true, true, false, true, true, true, true, false, false, false, false] rfl rfl (one_of HT_.out (by kernel_rfl)) (by decide) (fun K hK => ?_)
    refine value_ (w1 := ?_) (v := ?_) (by rfl) rfl ?_ ?_
    rotate_left 2
    · go_simp
      constructor
      · rfl
      · rfl
    refine hK.out _ _ ((((balloc (Below.refl _ _) (Nat.le_refl _) _).cell (World.block_lt_of_cell? _ _ hHeld)).trans hHeld)) (fun hHeld => ?_)
    clear hK K
    refine norm_ (a' := ?_) ?_ ?_
    rotate_left
    · show Act.put _ (some 122) _ = _
      simp only [Act.put, List.setIfInBounds_toArray, List.set_cons_zero, List.set_cons_succ, i64_w, i32_w]
      rfl
    refine one_ (i := 2) (N := some 124) #[true, true, true, true, true, true, true, false, false, false, false] rfl rfl (one_of HT_.out (by kernel_rfl)) (by decide) (fun K hK => ?_)
    refine app_step (.tmp 122) (.tmp 123) 38 (by rfl) rfl rfl infoU8 Tryd.underlying38 _ (w.heap.size + 1 + 1) (.slice (some ⟨w.heap.size + 1 + 1, 0, none⟩) 0 0) [] A1 (c - 2) r rfl (by rw [← HQ.out]; rfl) (ob_none (((w.alloc (.cells #[.int .i64 0, .slice none 0 0, .slice none 0 0, .slice none 0 0, .int .i64 0] 42)).alloc (.cells #[.int .i64 16, .slice none 0 0, .slice none 0 0, .slice none 0 0, .int .i64 0] 42)).drew) (w.heap.size + 1 + 1) (by simp)) (HS1.out.keep (balloc (bdrew (balloc (balloc (Below.refl _ w) (Nat.le_refl _) _) (by simp) _)) (by simp; omega) _)) (by simp) (by have := HQ.out; simp; omega) ?_
    intro v5 w5 hap
    obtain ⟨A5, c5, hv5, hs5, hn5⟩ := hap.own.sb
    have hk5 := hap.kept (ob_none (((w.alloc (.cells #[.int .i64 0, .slice none 0 0, .slice none 0 0, .slice none 0 0, .int .i64 0] 42)).alloc (.cells #[.int .i64 16, .slice none 0 0, .slice none 0 0, .slice none 0 0, .int .i64 0] 42)).drew) (w.heap.size + 1 + 1) (by simp)) (by simp)
    rw [List.nil_append, ← HQ.out] at hv5
    rw [List.nil_append] at hs5
    have HS5 := Lib.hid hs5
    have HN5 : Hid (∀ a, A5 = some a → w.heap.size + 1 + 1 ≤ a.block) := Lib.hid fun a ha => (hn5 a ha).1
    have HB5 := Lib.hid ((balloc (bdrew (balloc (balloc (Below.refl _ w) (Nat.le_refl _) _) (by simp) _)) (by simp; omega) _).trans (hk5.mono (by omega)))
    have R5 : w.heap.size + 1 < w5.heap.size := by have := hk5.size; simp at this; omega
    have R50 : w.heap.size < w5.heap.size := by omega
    have x0 : w5.cell? ⟨w.heap.size + 1, 0, none⟩ = some (.int .i64 16) := by rw [hk5.cell (p := ⟨w.heap.size + 1, 0, none⟩) (by simp)]; simp [go_sem]
    have x1 : w5.cell? ⟨w.heap.size + 1, 1, none⟩ = some (.slice none 0 0) := by rw [hk5.cell (p := ⟨w.heap.size + 1, 1, none⟩) (by simp)]; simp [go_sem]
    have x2 : w5.cell? ⟨w.heap.size + 1, 2, none⟩ = some (.slice none 0 0) := by rw [hk5.cell (p := ⟨w.heap.size + 1, 2, none⟩) (by simp)]; simp [go_sem]
    have x3 : w5.cell? ⟨w.heap.size + 1, 3, none⟩ = some (.slice none 0 0) := by rw [hk5.cell (p := ⟨w.heap.size + 1, 3, none⟩) (by simp)]; simp [go_sem]
    have x4 : w5.cell? ⟨w.heap.size + 1, 4, none⟩ = some (.int .i64 0) := by rw [hk5.cell (p := ⟨w.heap.size + 1, 4, none⟩) (by simp)]; simp [go_sem]
    have r0 : w5.cell? ⟨w.heap.size, 0, none⟩ = some (.int .i64 0) := by rw [hk5.cell (p := ⟨w.heap.size, 0, none⟩) (by show w.heap.size < _; omega)]; simp [go_sem]
    have r1 : w5.cell? ⟨w.heap.size, 1, none⟩ = some (.slice none 0 0) := by rw [hk5.cell (p := ⟨w.heap.size, 1, none⟩) (by show w.heap.size < _; omega)]; simp [go_sem]
    have r2 : w5.cell? ⟨w.heap.size, 2, none⟩ = some (.slice none 0 0) := by rw [hk5.cell (p := ⟨w.heap.size, 2, none⟩) (by show w.heap.size < _; omega)]; simp [go_sem]
    have r3 : w5.cell? ⟨w.heap.size, 3, none⟩ = some (.slice none 0 0) := by rw [hk5.cell (p := ⟨w.heap.size, 3, none⟩) (by show w.heap.size < _; omega)]; simp [go_sem]
    have r4 : w5.cell? ⟨w.heap.size, 4, none⟩ = some (.int .i64 0) := by rw [hk5.cell (p := ⟨w.heap.size, 4, none⟩) (by show w.heap.size < _; omega)]; simp [go_sem]
    have rf : ∀ o, w5.frozen? ⟨w.heap.size, o, none⟩ = false := fun o => by rw [hk5.frozen (p := ⟨w.heap.size, o, none⟩) (by show w.heap.size < _; omega)]; simp [go_sem]
    have xf : ∀ o, w5.frozen? ⟨w.heap.size + 1, o, none⟩ = false := fun o => by rw [hk5.frozen (p := ⟨w.heap.size + 1, o, none⟩) (by simp)]; simp [go_sem]
    subst hv5
    have hkb : w5.cell? ⟨b, off + 1, none⟩ = some (.int .u8 y) := (hk5.cell (p := ⟨b, off + 1, none⟩) (by show b < w.heap.size + 1 + 1; omega)).trans hHeld
    clear hap hs5 hn5 hk5
    refine hK.out _ _ (hkb) (fun hHeld => ?_)
    clear hK K
    refine norm_ (a' := ?_) ?_ ?_
    rotate_left
    · show Act.put _ (some 124) _ = _
      simp only [Act.put, List.setIfInBounds_toArray, List.set_cons_zero, List.set_cons_succ, i64_w, i32_w]
      rfl
    refine pure_ (i := 7) (N := some 129) (v := ?_) (a' := ?_) #[true, true, true, true, true, true, true, true, false, false, false] rfl rfl (any_of HT_.out (by kernel_rfl)) (fun _ _ _ h => h) (Or.inl ⟨by rfl, ?_⟩) ?_ ?_
    rotate_left
    · intro w'
      go_simp
      with_reducible rfl
    rotate_left
    · simp only [Act.put, List.setIfInBounds_toArray, List.set_cons_zero, List.set_cons_succ, i64_w, i32_w]
      rfl
    refine one_ (i := 8) (N := none) #[true, true, true, true, true, true, true, true, true, false, false] rfl rfl (one_of HT_.out (by kernel_rfl)) (by decide) (fun K hK => ?_)
    refine skip_ (w1 := ?_) (by rfl) rfl ?_ ?_
    rotate_left
    · go_simp
      rfl
    refine hK.out _ _ (((World.cell?_setCell_other _ _ _ _ (by intro e; injection e with e1 e2; omega)).trans hHeld)) (fun hHeld => ?_)
    clear hK K
    refine pure_ (i := 9) (N := some 130) (v := ?_) (a' := ?_) #[true, true, true, true, true, true, true, true, true, true, false] rfl rfl (any_of HT_.out (by kernel_rfl)) (fun _ _ _ h => h) (Or.inl ⟨by rfl, ?_⟩) ?_ ?_
    rotate_left
    · intro w'
      go_simp
      with_reducible rfl
    rotate_left
    · simp only [Act.put, List.setIfInBounds_toArray, List.set_cons_zero, List.set_cons_succ, i64_w, i32_w]
      rfl
    refine last_ (i := 10) (N := none) #[true, true, true, true, true, true, true, true, true, true, true] rfl rfl (one_of HT_.out (by kernel_rfl)) (by decide) (fun K hK => ?_)
    refine skip_ (w1 := ?_) (by rfl) rfl ?_ ?_
    rotate_left
    · go_simp
      rfl
    refine hK.out _ _ ?_
    clear hK K
    refine done_ (done_of HT_.out (by kernel_rfl)) ?_
    have nb1 : w.heap.size ≠ w.heap.size + 1 := by omega
    have nb2 : w.heap.size + 1 ≠ w.heap.size := by omega
    go_wp2_with fail
    have hbb : w.heap.size ≤ w.heap.size := Nat.le_refl _
    have hbo : w.heap.size ≤ w.heap.size + 1 := Nat.le_succ _
    have n1 : ∀ a, A5 = some a → a.block ≠ w.heap.size := fun a ha => by have := HN5.out a ha; omega
    have n2 : ∀ a, A5 = some a → a.block ≠ w.heap.size + 1 := fun a ha => by have := HN5.out a ha; omega
    exact bodyPost_ret (v := .tuple #[ivec16 A5 q c5 y, .bool true]) (by simp [results, Tryd.results19, go_sem, ivec16, r0, r1, r2, r3, r4, R5, R50, nb1, nb2]) rfl ⟨A5, c5, rfl, ((((((HS5.out.far n2 _).far n2 _).far n1 _).far n1 _).far n1 _).far n1 _).far n1 _, ((((((HB5.out.setCell hbo _).setCell hbo _).setCell hbb _).setCell hbb _).setCell hbb _).setCell hbb _).setCell hbb _⟩
end Go.Proofs.YtjjfdamlicoeeaaDoor.X
