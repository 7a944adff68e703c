/- Contracts of decTimes and DecOf. -/
import Derived.Test.YtjjfdamlicoeeaaDoorDxc
import Derived.Test.YtjjfdamlicoeeaaDoorStrD
import Derived.LoopN
set_option linter.unusedVariables false
set_option linter.unusedSimpArgs false
set_option maxRecDepth 100000
namespace Go.Proofs.YtjjfdamlicoeeaaDoor.X
open Go.RowKit
open Go.Proofs.YtjjfdamlicoeeaaDoorW.PrintLast
def R48.T9 : Bool × List (List Nat × List Nat) := (true, [([], []), ([0], [0]), ([], []), ([2], [2]), ([3], [3]), ([1, 4], [1, 4]), ([], []), ([6], [6]), ([], []), ([8], [8]), ([9], [9]), ([7, 10], [7, 10]), ([], []), ([12], [12]), ([5, 0, 1, 2, 3, 4, 5], [5]), ([11, 14, 0, 1, 2, 3, 4, 5, 6, 7, 8, 9, 10, 11, 14], [11]), ([13, 15, 0, 1, 2, 3, 4, 5, 6, 7, 8, 9, 10, 11, 12, 13, 14, 15], [13])])
def R48.B9 : List Nat := [0, 1, 0, 4, 12, 31, 0, 64, 0, 256, 768, 1984, 0, 4096, 63, 20479, 65535]
theorem R48.tab9 : rtab .any (opsOf Tryd.f48 9) = R48.T9 := by kernel_rfl
theorem R48.bits9 : waitsOk R48.T9.2 R48.B9 = true := by kernel_rfl
theorem u64_div (a b : Int) (hb : 0 < b) (h0 : 0 ≤ a) (h1 : a ≤ 18446744073709551615) : 0 ≤ a / b ∧ a / b ≤ 18446744073709551615 := ⟨Int.ediv_nonneg h0 (by omega), Int.le_trans (Int.ediv_le_self _ h0) h1⟩
set_option maxHeartbeats 4000000 in
theorem decTimes (hi lo dg : Int) (w : World) (h1 : 0 ≤ hi) (h2 : hi ≤ 18446744073709551615) (h3 : 0 ≤ lo) (h4 : lo ≤ 18446744073709551615) (h5 : 0 ≤ dg) (h6 : dg ≤ 255) :
    Calls Tryd.prog 48 #[.int .u64 hi, .int .u64 lo, .int .u64 dg] w fun e w' => ∃ x y z, e = .returned (.tuple #[.int .u64 x, .int .u64 y, .bool z]) ∧ (0 ≤ x ∧ x ≤ 18446744073709551615) ∧ (0 ≤ y ∧ y ≤ 18446744073709551615) ∧ Below w.heap.size w w' := by
  obtain ⟨d, hd⟩ : ∃ a, hi / 4294967296 = a := ⟨_, rfl⟩
  obtain ⟨c, hc⟩ : ∃ a, hi % 4294967296 = a := ⟨_, rfl⟩
  obtain ⟨b, hb⟩ : ∃ a, lo / 4294967296 = a := ⟨_, rfl⟩
  obtain ⟨a, ha⟩ : ∃ a, lo % 4294967296 = a := ⟨_, rfl⟩
  have ha' : bits .and .u64 lo 4294967295 = a := by rw [and_low32 lo h3 (by omega)]; exact ha
  have hc' : bits .and .u64 hi 4294967295 = c := by rw [and_low32 hi h1 (by omega)]; exact hc
  have A1 : 0 ≤ a ∧ a ≤ 4294967295 := by omega
  have A2 : 0 ≤ b ∧ b ≤ 4294967295 := by omega
  have A3 : 0 ≤ c ∧ c ≤ 4294967295 := by omega
  have A4 : 0 ≤ d ∧ d ≤ 4294967295 := by omega
  obtain ⟨n1, hn1⟩ : ∃ q, q = a * 10 + dg := ⟨_, rfl⟩
  obtain ⟨k1, hk1⟩ : ∃ q, q = n1 / 4294967296 := ⟨_, rfl⟩
  obtain ⟨m1, hm1⟩ : ∃ q, q = n1 % 4294967296 := ⟨_, rfl⟩
  obtain ⟨n2, hn2⟩ : ∃ q, q = b * 10 + k1 := ⟨_, rfl⟩
  obtain ⟨k2, hk2⟩ : ∃ q, q = n2 / 4294967296 := ⟨_, rfl⟩
  obtain ⟨m2, hm2⟩ : ∃ q, q = n2 % 4294967296 := ⟨_, rfl⟩
  obtain ⟨n3, hn3⟩ : ∃ q, q = c * 10 + k2 := ⟨_, rfl⟩
  obtain ⟨k3, hk3⟩ : ∃ q, q = n3 / 4294967296 := ⟨_, rfl⟩
  obtain ⟨m3, hm3⟩ : ∃ q, q = n3 % 4294967296 := ⟨_, rfl⟩
  obtain ⟨n4, hn4⟩ : ∃ q, q = d * 10 + k3 := ⟨_, rfl⟩
  obtain ⟨k4, hk4⟩ : ∃ q, q = n4 / 4294967296 := ⟨_, rfl⟩
  obtain ⟨m4, hm4⟩ : ∃ q, q = n4 % 4294967296 := ⟨_, rfl⟩
  have e1 : bits .and .u64 n1 4294967295 = m1 := by rw [and_low32 n1 (by omega) (by omega)]; exact hm1.symm
  have e2 : bits .and .u64 n2 4294967295 = m2 := by rw [and_low32 n2 (by omega) (by omega)]; exact hm2.symm
  have e3 : bits .and .u64 n3 4294967295 = m3 := by rw [and_low32 n3 (by omega) (by omega)]; exact hm3.symm
  have e4 : bits .and .u64 n4 4294967295 = m4 := by rw [and_low32 n4 (by omega) (by omega)]; exact hm4.symm
  have f1 := hn1.symm
  have f2 := hn2.symm
  have f3 := hn3.symm
  have f4 := hn4.symm
  have g1 := hk1.symm
  have g2 := hk2.symm
  have g3 := hk3.symm
  have g4 := hk4.symm
  have B1 : 0 ≤ m1 ∧ m1 ≤ 4294967295 ∧ 0 ≤ k1 ∧ k1 ≤ 4294967295 ∧ 0 ≤ n1 ∧ n1 ≤ 18446744073709551615 := by omega
  have B2 : 0 ≤ m2 ∧ m2 ≤ 4294967295 ∧ 0 ≤ k2 ∧ k2 ≤ 4294967295 ∧ 0 ≤ n2 ∧ n2 ≤ 18446744073709551615 := by omega
  have B3 : 0 ≤ m3 ∧ m3 ≤ 4294967295 ∧ 0 ≤ k3 ∧ k3 ≤ 4294967295 ∧ 0 ≤ n3 ∧ n3 ≤ 18446744073709551615 := by omega
  have B4 : 0 ≤ m4 ∧ m4 ≤ 4294967295 ∧ 0 ≤ k4 ∧ k4 ≤ 4294967295 ∧ 0 ≤ n4 ∧ n4 ≤ 18446744073709551615 := by omega
  have w1 : IntKind.u64.wrap (a * 10) = a * 10 := IntWalk.u64_in _ (by omega)
  have w2 : IntKind.u64.wrap (b * 10) = b * 10 := IntWalk.u64_in _ (by omega)
  have w3 : IntKind.u64.wrap (c * 10) = c * 10 := IntWalk.u64_in _ (by omega)
  have w4 : IntKind.u64.wrap (d * 10) = d * 10 := IntWalk.u64_in _ (by omega)
  have w5 : IntKind.u64.wrap (a * 10 + dg) = n1 := by rw [f1]; exact IntWalk.u64_in _ (by omega)
  have w6 : IntKind.u64.wrap (b * 10 + k1) = n2 := by rw [f2]; exact IntWalk.u64_in _ (by omega)
  have w7 : IntKind.u64.wrap (c * 10 + k2) = n3 := by rw [f3]; exact IntWalk.u64_in _ (by omega)
  have w8 : IntKind.u64.wrap (d * 10 + k3) = n4 := by rw [f4]; exact IntWalk.u64_in _ (by omega)
  clear ha hc hk1 hk2 hk3 hk4 hn1 hn2 hn3 hn4 hm1 hm2 hm3 hm4
  go_enter Tryd.func48, Tryd.ntmps48
  go_wp2
  refine wp_loop_rounds 5 ?_
  rw [rounds_succ]
  go_wp2
  rw [rounds_succ]
  go_wp2
  rw [rounds_succ]
  go_wp2
  rw [rounds_succ]
  go_wp2
  rw [rounds_succ]
  go_wp2
  have s1 : IntKind.u64.wrap (m4 * 4294967296) = m4 * 4294967296 := IntWalk.u64_in _ (by omega)
  have s3 : IntKind.u64.wrap (m2 * 4294967296) = m2 * 4294967296 := IntWalk.u64_in _ (by omega)
  have p1 : bits .or .u64 m3 (m4 * 4294967296) = m3 + m4 * 4294967296 := Go.u64_or32 _ _ (by omega) (by omega) (by omega) (by omega) (by omega)
  have p2 : bits .or .u64 m1 (m2 * 4294967296) = m1 + m2 * 4294967296 := Go.u64_or32 _ _ (by omega) (by omega) (by omega) (by omega) (by omega)
  obtain ⟨X, hX⟩ : ∃ X, X = m3 + m4 * 4294967296 := ⟨_, rfl⟩
  obtain ⟨Y, hY⟩ : ∃ X, X = m1 + m2 * 4294967296 := ⟨_, rfl⟩
  have bX : 0 ≤ X ∧ X ≤ 18446744073709551615 := by omega
  have bY : 0 ≤ Y ∧ Y ≤ 18446744073709551615 := by omega
  rw [← hX] at p1
  rw [← hY] at p2
  clear e1 e2 e3 e4 f1 f2 f3 f4 g1 g2 g3 g4 w1 w2 w3 w4 w5 w6 w7 w8 hX hY
  refine start_ (n := 17) (S := fun w' => w'.cell? ⟨w.heap.size, 0, none⟩ = some (.int .u64 m1) ∧ w'.cell? ⟨w.heap.size, 1, none⟩ = some (.int .u64 m2) ∧ w'.cell? ⟨w.heap.size, 2, none⟩ = some (.int .u64 m3) ∧ w'.cell? ⟨w.heap.size, 3, none⟩ = some (.int .u64 m4)) (ds := []) #[false, false, false, false, false, false, false, false, false, false, false, false, false, false, false, false, false] (by kernel_rfl) rfl rfl ⟨(by go_simp), (by go_simp), (by go_simp), (by go_simp)⟩ (fun hHeld => ?_)
  refine with_tabW R48.tab9 R48.bits9 (fun HT_ HW_ => ?_)
  refine pure_ (i := 0) (N := some 39) (v := ?_) (a' := ?_) #[true, false, false, false, false, false, false, false, false, false, false, false, false, false, false, false, false] rfl rfl (any_of HT_.out (by kernel_rfl)) (fun _ _ _ h => h) (Or.inl ⟨by rfl, ?_⟩) ?_ ?_
  rotate_left
  · intro w'
    go_simp
    with_reducible rfl
  rotate_left
  · simp only [Act.put, List.setIfInBounds_toArray, List.set_cons_zero, List.set_cons_succ, i64_w, i32_w]
    rfl
  refine pure_ (i := 2) (N := some 41) (v := ?_) (a' := ?_) #[true, false, true, false, false, false, false, false, false, false, false, false, false, false, false, false, false] rfl rfl (any_of HT_.out (by kernel_rfl)) (fun _ _ _ h => h) (Or.inl ⟨by rfl, ?_⟩) ?_ ?_
  rotate_left
  · intro w'
    go_simp
    with_reducible rfl
  rotate_left
  · simp only [Act.put, List.setIfInBounds_toArray, List.set_cons_zero, List.set_cons_succ, i64_w, i32_w]
    rfl
  refine pure_ (i := 6) (N := some 45) (v := ?_) (a' := ?_) #[true, false, true, false, false, false, true, false, false, false, false, false, false, false, false, false, false] rfl rfl (any_of HT_.out (by kernel_rfl)) (fun _ _ _ h => h) (Or.inl ⟨by rfl, ?_⟩) ?_ ?_
  rotate_left
  · intro w'
    go_simp
    with_reducible rfl
  rotate_left
  · simp only [Act.put, List.setIfInBounds_toArray, List.set_cons_zero, List.set_cons_succ, i64_w, i32_w]
    rfl
  refine pure_ (i := 8) (N := some 47) (v := ?_) (a' := ?_) #[true, false, true, false, false, false, true, false, true, false, false, false, false, false, false, false, false] rfl rfl (any_of HT_.out (by kernel_rfl)) (fun _ _ _ h => h) (Or.inl ⟨by rfl, ?_⟩) ?_ ?_
  rotate_left
  · intro w'
    go_simp
    with_reducible rfl
  rotate_left
  · simp only [Act.put, List.setIfInBounds_toArray, List.set_cons_zero, List.set_cons_succ, i64_w, i32_w]
    rfl
  refine pure_ (i := 12) (N := some 51) (v := ?_) (a' := ?_) #[true, false, true, false, false, false, true, false, true, false, false, false, true, false, false, false, false] rfl rfl (any_of HT_.out (by kernel_rfl)) (fun _ _ _ h => h) (Or.inl ⟨by rfl, ?_⟩) ?_ ?_
  rotate_left
  · intro w'
    go_simp
    with_reducible rfl
  rotate_left
  · simp only [Act.put, List.setIfInBounds_toArray, List.set_cons_zero, List.set_cons_succ, i64_w, i32_w]
    rfl
  refine pure_ (i := 13) (N := some 52) (v := ?_) (a' := ?_) #[true, false, true, false, false, false, true, false, true, false, false, false, true, true, false, false, false] rfl rfl (any_of HT_.out (by kernel_rfl)) (fun _ _ _ h => h) (Or.inl ⟨by rfl, ?_⟩) ?_ ?_
  rotate_left
  · intro w'
    go_simp
    with_reducible rfl
  rotate_left
  · simp only [Act.put, List.setIfInBounds_toArray, List.set_cons_zero, List.set_cons_succ, i64_w, i32_w]
    rfl
  refine take_ (i := 1) (N := some 40) (v := ?_) (a' := ?_) #[true, true, true, false, false, false, true, false, true, false, false, false, true, true, false, false, false] rfl rfl (take_ofW HT_.out HW_.out (by kernel_rfl)) (fun _ _ _ h => h) (Or.inl ⟨by rfl, ?_⟩) hHeld ?_ ?_
  rotate_left
  · rintro w' ⟨s0, s1, s2, s3⟩
    go_simp
    with_reducible rfl
  rotate_left
  · simp only [Act.put, List.setIfInBounds_toArray, List.set_cons_zero, List.set_cons_succ, i64_w, i32_w]
    rfl
  refine take_ (i := 3) (N := some 42) (v := ?_) (a' := ?_) #[true, true, true, true, false, false, true, false, true, false, false, false, true, true, false, false, false] rfl rfl (take_ofW HT_.out HW_.out (by kernel_rfl)) (fun _ _ _ h => h) (Or.inl ⟨by rfl, ?_⟩) hHeld ?_ ?_
  rotate_left
  · rintro w' ⟨s0, s1, s2, s3⟩
    go_simp
    with_reducible rfl
  rotate_left
  · simp only [Act.put, List.setIfInBounds_toArray, List.set_cons_zero, List.set_cons_succ, i64_w, i32_w]
    rfl
  refine pure_ (i := 4) (N := some 43) (v := ?_) (a' := ?_) #[true, true, true, true, true, false, true, false, true, false, false, false, true, true, false, false, false] rfl rfl (any_of HT_.out (by kernel_rfl)) (fun _ _ _ h => h) (Or.inl ⟨by rfl, ?_⟩) ?_ ?_
  rotate_left
  · intro w'
    go_simp
    with_reducible rfl
  rotate_left
  · simp only [Act.put, List.setIfInBounds_toArray, List.set_cons_zero, List.set_cons_succ, i64_w, i32_w]
    rfl
  refine pure_ (i := 5) (N := some 44) (v := ?_) (a' := ?_) #[true, true, true, true, true, true, true, false, true, false, false, false, true, true, false, false, false] rfl rfl (any_of HT_.out (by kernel_rfl)) (fun _ _ _ h => h) (Or.inl ⟨by rfl, ?_⟩) ?_ ?_
  rotate_left
  · intro w'
    go_simp
    with_reducible rfl
  rotate_left
  · simp only [Act.put, List.setIfInBounds_toArray, List.set_cons_zero, List.set_cons_succ, i64_w, i32_w]
    rfl
  refine pure_ (i := 14) (N := some 6) (v := ?_) (a' := ?_) #[true, true, true, true, true, true, true, false, true, false, false, false, true, true, true, false, false] rfl rfl (any_of HT_.out (by kernel_rfl)) (fun _ _ _ h => h) (Or.inl ⟨by rfl, ?_⟩) ?_ ?_
  rotate_left
  · intro w'
    go_simp
    with_reducible rfl
  rotate_left
  · simp only [Act.put, List.setIfInBounds_toArray, List.set_cons_zero, List.set_cons_succ, i64_w, i32_w]
    rfl
  refine take_ (i := 7) (N := some 46) (v := ?_) (a' := ?_) #[true, true, true, true, true, true, true, true, true, false, false, false, true, true, true, false, false] rfl rfl (take_ofW HT_.out HW_.out (by kernel_rfl)) (fun _ _ _ h => h) (Or.inl ⟨by rfl, ?_⟩) hHeld ?_ ?_
  rotate_left
  · rintro w' ⟨s0, s1, s2, s3⟩
    go_simp
    with_reducible rfl
  rotate_left
  · simp only [Act.put, List.setIfInBounds_toArray, List.set_cons_zero, List.set_cons_succ, i64_w, i32_w]
    rfl
  refine take_ (i := 9) (N := some 48) (v := ?_) (a' := ?_) #[true, true, true, true, true, true, true, true, true, true, false, false, true, true, true, false, false] rfl rfl (take_ofW HT_.out HW_.out (by kernel_rfl)) (fun _ _ _ h => h) (Or.inl ⟨by rfl, ?_⟩) hHeld ?_ ?_
  rotate_left
  · rintro w' ⟨s0, s1, s2, s3⟩
    go_simp
    with_reducible rfl
  rotate_left
  · simp only [Act.put, List.setIfInBounds_toArray, List.set_cons_zero, List.set_cons_succ, i64_w, i32_w]
    rfl
  refine pure_ (i := 10) (N := some 49) (v := ?_) (a' := ?_) #[true, true, true, true, true, true, true, true, true, true, true, false, true, true, true, false, false] rfl rfl (any_of HT_.out (by kernel_rfl)) (fun _ _ _ h => h) (Or.inl ⟨by rfl, ?_⟩) ?_ ?_
  rotate_left
  · intro w'
    go_simp
    with_reducible rfl
  rotate_left
  · simp only [Act.put, List.setIfInBounds_toArray, List.set_cons_zero, List.set_cons_succ, i64_w, i32_w]
    rfl
  refine pure_ (i := 11) (N := some 50) (v := ?_) (a' := ?_) #[true, true, true, true, true, true, true, true, true, true, true, true, true, true, true, false, false] rfl rfl (any_of HT_.out (by kernel_rfl)) (fun _ _ _ h => h) (Or.inl ⟨by rfl, ?_⟩) ?_ ?_
  rotate_left
  · intro w'
    go_simp
    with_reducible rfl
  rotate_left
  · simp only [Act.put, List.setIfInBounds_toArray, List.set_cons_zero, List.set_cons_succ, i64_w, i32_w]
    rfl
  refine pure_ (i := 15) (N := some 7) (v := ?_) (a' := ?_) #[true, true, true, true, true, true, true, true, true, true, true, true, true, true, true, true, false] rfl rfl (any_of HT_.out (by kernel_rfl)) (fun _ _ _ h => h) (Or.inl ⟨by rfl, ?_⟩) ?_ ?_
  rotate_left
  · intro w'
    go_simp
    with_reducible rfl
  rotate_left
  · simp only [Act.put, List.setIfInBounds_toArray, List.set_cons_zero, List.set_cons_succ, i64_w, i32_w]
    rfl
  refine pure_ (i := 16) (N := some 8) (v := ?_) (a' := ?_) #[true, true, true, true, true, true, true, true, true, true, true, true, true, true, true, true, true] rfl rfl (any_of HT_.out (by kernel_rfl)) (fun _ _ _ h => h) (Or.inl ⟨by rfl, ?_⟩) ?_ ?_
  rotate_left
  · intro w'
    go_simp
    with_reducible rfl
  rotate_left
  · simp only [Act.put, List.setIfInBounds_toArray, List.set_cons_zero, List.set_cons_succ, i64_w, i32_w]
    rfl
  refine done_ (done_of HT_.out (by kernel_rfl)) ?_
  go_wp2
  exact bodyPost_ret (v := .tuple #[.int .u64 X, .int .u64 Y, .bool (k4 == 0)]) (by simp [results, Tryd.results48, go_sem]) rfl ⟨X, Y, _, rfl, bX, bY, bdrew (balloc (Below.refl _ _) (Nat.le_refl _) _)⟩
set_option maxHeartbeats 6400000 in
theorem decOf_any (h l : Int) (w : World) (h1 : 0 ≤ h) (h2 : h ≤ 18446744073709551615) (h3 : 0 ≤ l) (h4 : l ≤ 18446744073709551615) :
    Calls Tryd.prog 10 #[.int .u64 h, .int .u64 l] w fun e w' => e = .returned (if k5P h = 30 then .agg #[.int .i64 1, .bool (h / 9223372036854775808 == 1), .string ⟨#[]⟩, .int .i64 0] else if k5P h = 31 then .agg #[.int .i64 2, .bool (h / 9223372036854775808 == 1), .string ⟨#[]⟩, .int .i64 0] else .agg #[.int .i64 0, .bool (h / 9223372036854775808 == 1), .string ⟨(digs (hiP h * 18446744073709551616 + loP h l).toNat).toArray⟩, .int .i64 (exP h)]) ∧ Below w.heap.size w w' := by
  obtain ⟨k5, hk5⟩ : ∃ x, bits .and .u64 (h / 288230376151711744) 31 = x := ⟨_, rfl⟩
  obtain ⟨e3, he3⟩ : ∃ x, bits .and .u64 (h / 2305843009213693952) 3 = x := ⟨_, rfl⟩
  obtain ⟨cf, hcf⟩ : ∃ x, bits .and .u64 h 562949953421311 = x := ⟨_, rfl⟩
  obtain ⟨ea, hea⟩ : ∃ x, bits .and .u64 (h / 140737488355328) 16383 = x := ⟨_, rfl⟩
  obtain ⟨eb, heb⟩ : ∃ x, bits .and .u64 (h / 562949953421312) 16383 = x := ⟨_, rfl⟩
  have hcf2 : cf = h % 562949953421312 := by rw [← hcf]; exact bits_mask .u64 64 (by decide) wraps_u64 49 (by decide) h h1 (by omega)
  have hea2 : ea = h / 140737488355328 % 16384 := by rw [← hea]; exact bits_mask .u64 64 (by decide) wraps_u64 14 (by decide) _ (by omega) (by omega)
  have heb2 : eb = h / 562949953421312 % 16384 := by rw [← heb]; exact bits_mask .u64 64 (by decide) wraps_u64 14 (by decide) _ (by omega) (by omega)
  have hcr : 0 ≤ cf ∧ cf ≤ 18446744073709551615 := by omega
  have hear : 0 ≤ ea ∧ ea ≤ 16383 := by omega
  have hebr : 0 ≤ eb ∧ eb ≤ 16383 := by omega
  obtain ⟨ng, hng⟩ : ∃ x, (h / 9223372036854775808 == 1) = x := ⟨_, rfl⟩
  have hK5 : k5P h = k5 := hk5
  have hE3 : e3P h = e3 := he3
  have hHI : hiP h = if e3 = 3 then 0 else cf := by unfold hiP; rw [hE3, hcf]
  have hLO : loP h l = if e3 = 3 then 0 else l := by unfold loP; rw [hE3]
  have hEX : exP h = (if e3 = 3 then ea else eb) - 6176 := by unfold exP; rw [hE3, hea, heb]
  rw [hK5, hHI, hLO, hEX, hng]
  clear hcf2 hea2 heb2 hK5 hE3 hHI hLO hEX
  have hwa : wrap64 (ea + (-6176)) = ea - 6176 := by unfold wrap64; omega
  have hwb : wrap64 (eb + (-6176)) = eb - 6176 := by unfold wrap64; omega
  have hwa2 : wrap64 ea = ea := by unfold wrap64; omega
  have hwb2 : wrap64 eb = eb := by unfold wrap64; omega
  by_cases a30 : k5 = 30
  · subst a30
    rw [if_pos rfl]
    go_enter Tryd.func10, Tryd.ntmps10
    go_wp2
    exact bodyPost_ret (v := .agg #[.int .i64 1, .bool ng, (.string ⟨#[]⟩), .int .i64 0]) (by simp [results, Tryd.results10, go_sem]) rfl ⟨rfl, balloc (balloc (Below.refl _ _) (Nat.le_refl _) _) (by simp) _⟩
  have b30 : (k5 == 30) = false := by simpa using a30
  rw [if_neg a30]
  by_cases a31 : k5 = 31
  · subst a31
    rw [if_pos rfl]
    go_enter Tryd.func10, Tryd.ntmps10
    go_wp2
    exact bodyPost_ret (v := .agg #[.int .i64 2, .bool ng, (.string ⟨#[]⟩), .int .i64 0]) (by simp [results, Tryd.results10, go_sem]) rfl ⟨rfl, balloc (balloc (Below.refl _ _) (Nat.le_refl _) _) (by simp) _⟩
  have b31 : (k5 == 31) = false := by simpa using a31
  rw [if_neg a31]
  by_cases a3 : e3 = 3
  · subst a3
    simp only [if_true, show digs ((0 : Int) * 18446744073709551616 + 0).toNat = [48] from by simp [digs]]
    go_enter Tryd.func10, Tryd.ntmps10
    go_wp2
    refine bodyPost_ret (v := .agg #[.int .i64 0, .bool ng, .string ⟨#[48]⟩, .int .i64 (ea - 6176)]) (by simp [results, Tryd.results10, go_sem]; try omega) rfl ⟨rfl, balloc (balloc (Below.refl _ _) (Nat.le_refl _) _) (by simp) _⟩
  have b3 : (e3 == 3) = false := by simpa using a3
  simp only [if_neg a3]
  go_enter Tryd.func10, Tryd.ntmps10
  go_wp2_with fail
  refine (digits_any cf l _ hcr.1 hcr.2 h3 h4).mono ?_
  rintro e w1 ⟨rfl, hb1⟩
  obtain ⟨s, hs⟩ : ∃ x, x = (⟨(digs (cf * 18446744073709551616 + l).toNat).toArray⟩ : ByteArray) := ⟨_, rfl⟩
  rw [← hs]
  have HSS := Lib.hid hs
  clear hs
  have c0 : w1.cell? ⟨w.heap.size, 0, none⟩ = some (.int .i64 0) := (hb1.cell (by simp; try omega)).trans (by go_simp)
  have fc0 : w1.frozen? ⟨w.heap.size, 0, none⟩ = false := (hb1.frozen (by simp; try omega)).trans (by go_simp)
  have c1 : w1.cell? ⟨w.heap.size, 1, none⟩ = some (.bool false) := (hb1.cell (by simp; try omega)).trans (by go_simp)
  have fc1 : w1.frozen? ⟨w.heap.size, 1, none⟩ = false := (hb1.frozen (by simp; try omega)).trans (by go_simp)
  have c2 : w1.cell? ⟨w.heap.size, 2, none⟩ = some (.string ⟨#[]⟩) := (hb1.cell (by simp; try omega)).trans (by go_simp)
  have fc2 : w1.frozen? ⟨w.heap.size, 2, none⟩ = false := (hb1.frozen (by simp; try omega)).trans (by go_simp)
  have c3 : w1.cell? ⟨w.heap.size, 3, none⟩ = some (.int .i64 0) := (hb1.cell (by simp; try omega)).trans (by go_simp)
  have fc3 : w1.frozen? ⟨w.heap.size, 3, none⟩ = false := (hb1.frozen (by simp; try omega)).trans (by go_simp)
  have d0 : w1.cell? ⟨w.heap.size + 1, 0, none⟩ = some (.int .i64 0) := (hb1.cell (by simp; try omega)).trans (by go_simp)
  have fd0 : w1.frozen? ⟨w.heap.size + 1, 0, none⟩ = false := (hb1.frozen (by simp; try omega)).trans (by go_simp)
  have d1 : w1.cell? ⟨w.heap.size + 1, 1, none⟩ = some (.bool ng) := (hb1.cell (by simp; try omega)).trans (by go_simp)
  have fd1 : w1.frozen? ⟨w.heap.size + 1, 1, none⟩ = false := (hb1.frozen (by simp; try omega)).trans (by go_simp)
  have d2 : w1.cell? ⟨w.heap.size + 1, 2, none⟩ = some (.string ⟨#[]⟩) := (hb1.cell (by simp; try omega)).trans (by go_simp)
  have fd2 : w1.frozen? ⟨w.heap.size + 1, 2, none⟩ = false := (hb1.frozen (by simp; try omega)).trans (by go_simp)
  have d3 : w1.cell? ⟨w.heap.size + 1, 3, none⟩ = some (.int .i64 0) := (hb1.cell (by simp; try omega)).trans (by go_simp)
  have fd3 : w1.frozen? ⟨w.heap.size + 1, 3, none⟩ = false := (hb1.frozen (by simp; try omega)).trans (by go_simp)
  have hz : w.heap.size + 1 < w1.heap.size := by have := hb1.size; simp at this; omega
  have hB : Below w.heap.size w w1 := (balloc (balloc (Below.refl _ _) (Nat.le_refl _) _) (by simp) _).trans (hb1.mono (by simp; omega))
  clear hb1
  go_wp2
  refine bodyPost_ret (v := .agg #[.int .i64 0, .bool ng, .string s, .int .i64 (eb - 6176)]) (by simp [results, Tryd.results10, go_sem, c0, c1, c2, c3, d0, d1, d2, d3, hz]; try omega) rfl ⟨by rw [HSS.out], ?_⟩
  exact (((((hB.setCell (by simp) _).setCell (by simp) _).setCell (Nat.le_refl _) _).setCell (Nat.le_refl _) _).setCell (Nat.le_refl _) _).setCell (Nat.le_refl _) _
end Go.Proofs.YtjjfdamlicoeeaaDoor.X
