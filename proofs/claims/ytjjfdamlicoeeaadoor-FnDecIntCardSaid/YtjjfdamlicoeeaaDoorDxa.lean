import Derived.Test.YtjjfdamlicoeeaaDoorWords
import Derived.Test.YtjjfdamlicoeeaaDoorDmod
import Derived.LoopN
import Derived.Laws.BitsLemmas
import Derived.Laws.MathBits
import Derived.Lib.EndianBits
import Derived.IntWalk
import Derived.Test.YtjjfdamlicoeeaaDoorWLast
import Derived.Test.YtjjfdamlicoeeaaDoorWTab
set_option linter.unusedVariables false
set_option linter.unusedSimpArgs false
set_option maxRecDepth 100000
namespace Go.Proofs.YtjjfdamlicoeeaaDoor.X
open Go.RowKit
open Go.Proofs.YtjjfdamlicoeeaaDoorW.PrintLast
def R49.T9 : Bool × List (List Nat × List Nat) := (true, [([], []), ([0], [0]), ([1], [1]), ([], []), ([3], [3]), ([2, 4], [2, 4]), ([], []), ([6], [6]), ([7], [7]), ([], []), ([9], [9]), ([8, 10], [8, 10]), ([], []), ([12], [12]), ([5, 0, 1, 2, 3, 4, 5], [5]), ([11, 14, 0, 1, 2, 3, 4, 5, 6, 7, 8, 9, 10, 11, 14], [11]), ([13, 15, 0, 1, 2, 3, 4, 5, 6, 7, 8, 9, 10, 11, 12, 13, 14, 15], [13])])
def R49.B9 : List Nat := [0, 1, 3, 0, 8, 31, 0, 64, 192, 0, 512, 1984, 0, 4096, 63, 20479, 65535]
theorem R49.tab9 : rtab .any (opsOf Tryd.f49 9) = R49.T9 := by kernel_rfl
theorem R49.bits9 : waitsOk R49.T9.2 R49.B9 = true := by kernel_rfl
set_option maxHeartbeats 4000000 in
theorem decTenth (hi lo : Int) (w : World) (h1 : 0 ≤ hi) (h2 : hi ≤ 18446744073709551615) (h3 : 0 ≤ lo) (h4 : lo ≤ 18446744073709551615) :
    Calls Tryd.prog 49 #[.int .u64 hi, .int .u64 lo] w fun e w' => e = .returned (.tuple #[.int .u64 ((hi * 18446744073709551616 + lo) / 10 / 18446744073709551616), .int .u64 ((hi * 18446744073709551616 + lo) / 10 % 18446744073709551616), .int .u8 ((hi * 18446744073709551616 + lo) % 10)]) ∧ Below w.heap.size w w' := by
  obtain ⟨a, ha⟩ : ∃ a, hi / 4294967296 = a := ⟨_, rfl⟩
  obtain ⟨b, hb⟩ : ∃ a, hi % 4294967296 = a := ⟨_, rfl⟩
  obtain ⟨c, hc⟩ : ∃ a, lo / 4294967296 = a := ⟨_, rfl⟩
  obtain ⟨d, hd⟩ : ∃ a, lo % 4294967296 = a := ⟨_, rfl⟩
  have hb' : bits .and .u64 hi 4294967295 = b := by rw [and_low32 hi h1 (by omega)]; exact hb
  have hd' : bits .and .u64 lo 4294967295 = d := by rw [and_low32 lo h3 (by omega)]; exact hd
  obtain ⟨q1, hq1⟩ : ∃ q, q = a / 10 := ⟨_, rfl⟩
  obtain ⟨r1, hr1⟩ : ∃ q, q = a % 10 := ⟨_, rfl⟩
  obtain ⟨n2, hn2⟩ : ∃ q, q = r1 * 4294967296 + b := ⟨_, rfl⟩
  obtain ⟨q2, hq2⟩ : ∃ q, q = n2 / 10 := ⟨_, rfl⟩
  obtain ⟨r2, hr2⟩ : ∃ q, q = n2 % 10 := ⟨_, rfl⟩
  obtain ⟨n3, hn3⟩ : ∃ q, q = r2 * 4294967296 + c := ⟨_, rfl⟩
  obtain ⟨q3, hq3⟩ : ∃ q, q = n3 / 10 := ⟨_, rfl⟩
  obtain ⟨r3, hr3⟩ : ∃ q, q = n3 % 10 := ⟨_, rfl⟩
  obtain ⟨n4, hn4⟩ : ∃ q, q = r3 * 4294967296 + d := ⟨_, rfl⟩
  obtain ⟨q4, hq4⟩ : ∃ q, q = n4 / 10 := ⟨_, rfl⟩
  obtain ⟨r4, hr4⟩ : ∃ q, q = n4 % 10 := ⟨_, rfl⟩
  have o1 : bits .or .u64 0 a = a := by have := or_low 0 a (by omega) (by omega) (by omega) (by omega); simpa using this
  have o2 : bits .or .u64 (r1 * 4294967296) b = n2 := by rw [or_low r1 b (by omega) (by omega) (by omega) (by omega)]; omega
  have o3 : bits .or .u64 (r2 * 4294967296) c = n3 := by rw [or_low r2 c (by omega) (by omega) (by omega) (by omega)]; omega
  have o4 : bits .or .u64 (r3 * 4294967296) d = n4 := by rw [or_low r3 d (by omega) (by omega) (by omega) (by omega)]; omega
  have t1 : IntKind.u64.wrap (a.tdiv 10) = q1 := by rw [IntWalk.u64_quo a 10 (by omega)]; omega
  have t2 : IntKind.u64.wrap (n2.tdiv 10) = q2 := by rw [IntWalk.u64_quo n2 10 (by omega)]; omega
  have t3 : IntKind.u64.wrap (n3.tdiv 10) = q3 := by rw [IntWalk.u64_quo n3 10 (by omega)]; omega
  have t4 : IntKind.u64.wrap (n4.tdiv 10) = q4 := by rw [IntWalk.u64_quo n4 10 (by omega)]; omega
  have m1 : a.tmod 10 = r1 := by rw [Int.tmod_eq_emod_of_nonneg (by omega)]; omega
  have m2 : n2.tmod 10 = r2 := by rw [Int.tmod_eq_emod_of_nonneg (by omega)]; omega
  have m3 : n3.tmod 10 = r3 := by rw [Int.tmod_eq_emod_of_nonneg (by omega)]; omega
  have m4 : n4.tmod 10 = r4 := by rw [Int.tmod_eq_emod_of_nonneg (by omega)]; omega
  have B1 : 0 ≤ r1 ∧ r1 < 10 := by omega
  have B2 : 0 ≤ r2 ∧ r2 < 10 := by omega
  have B3 : 0 ≤ r3 ∧ r3 < 10 := by omega
  have B4 : 0 ≤ r4 ∧ r4 < 10 := by omega
  have C1 : 0 ≤ q1 ∧ q1 < 4294967296 := by omega
  have C2 : 0 ≤ q2 ∧ q2 < 4294967296 := by omega
  have C3 : 0 ≤ q3 ∧ q3 < 4294967296 := by omega
  have C4 : 0 ≤ q4 ∧ q4 < 4294967296 := by omega
  have R1 : (q1 * 4294967296 + q2) * 18446744073709551616 + (q3 * 4294967296 + q4) = (hi * 18446744073709551616 + lo) / 10 := by omega
  have R2 : r4 = (hi * 18446744073709551616 + lo) % 10 := by omega
  have p1 : bits .or .u64 (q1 * 4294967296) q2 = q1 * 4294967296 + q2 := or_low q1 q2 (by omega) (by omega) (by omega) (by omega)
  have p2 : bits .or .u64 (q3 * 4294967296) q4 = q3 * 4294967296 + q4 := or_low q3 q4 (by omega) (by omega) (by omega) (by omega)
  clear hb hd hq1 hr1 hq2 hr2 hq3 hr3 hq4 hr4 hn2 hn3 hn4
  go_enter Tryd.func49, Tryd.ntmps49
  go_wp2
  refine wp_loop_rounds 5 ?_
  rw [rounds_succ]
  go_wp2
  rw [rounds_succ]
  go_wp2
  rw [rounds_succ]
  go_wp2
  rw [rounds_succ]
  go_wp2
  rw [rounds_succ]
  go_wp2
  clear o1 o2 o3 o4 t1 t2 t3 t4 m1 m2 m3 m4 B1 B2 B3
  have s1 : IntKind.u64.wrap (q1 * 4294967296) = q1 * 4294967296 := IntWalk.u64_in _ (by omega)
  have s3 : IntKind.u64.wrap (q3 * 4294967296) = q3 * 4294967296 := IntWalk.u64_in _ (by omega)
  refine start_ (n := 17) (S := fun w' => w'.cell? ⟨w.heap.size, 0, none⟩ = some (.int .u64 q1) ∧ w'.cell? ⟨w.heap.size, 1, none⟩ = some (.int .u64 q2) ∧ w'.cell? ⟨w.heap.size, 2, none⟩ = some (.int .u64 q3) ∧ w'.cell? ⟨w.heap.size, 3, none⟩ = some (.int .u64 q4)) (ds := []) #[false, false, false, false, false, false, false, false, false, false, false, false, false, false, false, false, false] (by kernel_rfl) rfl rfl ⟨(by go_simp), (by go_simp), (by go_simp), (by go_simp)⟩ (fun hHeld => ?_)
  refine with_tabW R49.tab9 R49.bits9 (fun HT_ HW_ => ?_)
  refine pure_ (i := 0) (N := some 36) (v := ?_) (a' := ?_) #[true, false, false, false, false, false, false, false, false, false, false, false, false, false, false, false, false] rfl rfl (any_of HT_.out (by kernel_rfl)) (fun _ _ _ h => h) (Or.inl ⟨by rfl, ?_⟩) ?_ ?_
  rotate_left
  · intro w'
    go_simp
    with_reducible rfl
  rotate_left
  · simp only [Act.put, List.setIfInBounds_toArray, List.set_cons_zero, List.set_cons_succ, i64_w, i32_w]
    rfl
  refine pure_ (i := 3) (N := some 39) (v := ?_) (a' := ?_) #[true, false, false, true, false, false, false, false, false, false, false, false, false, false, false, false, false] rfl rfl (any_of HT_.out (by kernel_rfl)) (fun _ _ _ h => h) (Or.inl ⟨by rfl, ?_⟩) ?_ ?_
  rotate_left
  · intro w'
    go_simp
    with_reducible rfl
  rotate_left
  · simp only [Act.put, List.setIfInBounds_toArray, List.set_cons_zero, List.set_cons_succ, i64_w, i32_w]
    rfl
  refine pure_ (i := 6) (N := some 42) (v := ?_) (a' := ?_) #[true, false, false, true, false, false, true, false, false, false, false, false, false, false, false, false, false] rfl rfl (any_of HT_.out (by kernel_rfl)) (fun _ _ _ h => h) (Or.inl ⟨by rfl, ?_⟩) ?_ ?_
  rotate_left
  · intro w'
    go_simp
    with_reducible rfl
  rotate_left
  · simp only [Act.put, List.setIfInBounds_toArray, List.set_cons_zero, List.set_cons_succ, i64_w, i32_w]
    rfl
  refine pure_ (i := 9) (N := some 45) (v := ?_) (a' := ?_) #[true, false, false, true, false, false, true, false, false, true, false, false, false, false, false, false, false] rfl rfl (any_of HT_.out (by kernel_rfl)) (fun _ _ _ h => h) (Or.inl ⟨by rfl, ?_⟩) ?_ ?_
  rotate_left
  · intro w'
    go_simp
    with_reducible rfl
  rotate_left
  · simp only [Act.put, List.setIfInBounds_toArray, List.set_cons_zero, List.set_cons_succ, i64_w, i32_w]
    rfl
  refine pure_ (i := 12) (N := some 48) (v := ?_) (a' := ?_) #[true, false, false, true, false, false, true, false, false, true, false, false, true, false, false, false, false] rfl rfl (any_of HT_.out (by kernel_rfl)) (fun _ _ _ h => h) (Or.inl ⟨by rfl, ?_⟩) ?_ ?_
  rotate_left
  · intro w'
    go_simp
    with_reducible rfl
  rotate_left
  · simp only [Act.put, List.setIfInBounds_toArray, List.set_cons_zero, List.set_cons_succ, i64_w, i32_w]
    rfl
  refine pure_ (i := 13) (N := some 49) (v := ?_) (a' := ?_) #[true, false, false, true, false, false, true, false, false, true, false, false, true, true, false, false, false] rfl rfl (any_of HT_.out (by kernel_rfl)) (fun _ _ _ h => h) (Or.inl ⟨by rfl, ?_⟩) ?_ ?_
  rotate_left
  · intro w'
    go_simp
    with_reducible rfl
  rotate_left
  · simp only [Act.put, List.setIfInBounds_toArray, List.set_cons_zero, List.set_cons_succ, i64_w, i32_w]
    rfl
  refine take_ (i := 1) (N := some 37) (v := ?_) (a' := ?_) #[true, true, false, true, false, false, true, false, false, true, false, false, true, true, false, false, false] rfl rfl (take_ofW HT_.out HW_.out (by kernel_rfl)) (fun _ _ _ h => h) (Or.inl ⟨by rfl, ?_⟩) hHeld ?_ ?_
  rotate_left
  · rintro w' ⟨s0, s1, s2, s3⟩
    go_simp
    with_reducible rfl
  rotate_left
  · simp only [Act.put, List.setIfInBounds_toArray, List.set_cons_zero, List.set_cons_succ, i64_w, i32_w]
    rfl
  refine pure_ (i := 2) (N := some 38) (v := ?_) (a' := ?_) #[true, true, true, true, false, false, true, false, false, true, false, false, true, true, false, false, false] rfl rfl (any_of HT_.out (by kernel_rfl)) (fun _ _ _ h => h) (Or.inl ⟨by rfl, ?_⟩) ?_ ?_
  rotate_left
  · intro w'
    go_simp
    with_reducible rfl
  rotate_left
  · simp only [Act.put, List.setIfInBounds_toArray, List.set_cons_zero, List.set_cons_succ, i64_w, i32_w]
    rfl
  refine take_ (i := 4) (N := some 40) (v := ?_) (a' := ?_) #[true, true, true, true, true, false, true, false, false, true, false, false, true, true, false, false, false] rfl rfl (take_ofW HT_.out HW_.out (by kernel_rfl)) (fun _ _ _ h => h) (Or.inl ⟨by rfl, ?_⟩) hHeld ?_ ?_
  rotate_left
  · rintro w' ⟨s0, s1, s2, s3⟩
    go_simp
    with_reducible rfl
  rotate_left
  · simp only [Act.put, List.setIfInBounds_toArray, List.set_cons_zero, List.set_cons_succ, i64_w, i32_w]
    rfl
  refine pure_ (i := 5) (N := some 41) (v := ?_) (a' := ?_) #[true, true, true, true, true, true, true, false, false, true, false, false, true, true, false, false, false] rfl rfl (any_of HT_.out (by kernel_rfl)) (fun _ _ _ h => h) (Or.inl ⟨by rfl, ?_⟩) ?_ ?_
  rotate_left
  · intro w'
    go_simp
    with_reducible rfl
  rotate_left
  · simp only [Act.put, List.setIfInBounds_toArray, List.set_cons_zero, List.set_cons_succ, i64_w, i32_w]
    rfl
  refine pure_ (i := 14) (N := some 4) (v := ?_) (a' := ?_) #[true, true, true, true, true, true, true, false, false, true, false, false, true, true, true, false, false] rfl rfl (any_of HT_.out (by kernel_rfl)) (fun _ _ _ h => h) (Or.inl ⟨by rfl, ?_⟩) ?_ ?_
  rotate_left
  · intro w'
    go_simp
    with_reducible rfl
  rotate_left
  · simp only [Act.put, List.setIfInBounds_toArray, List.set_cons_zero, List.set_cons_succ, i64_w, i32_w]
    rfl
  refine take_ (i := 7) (N := some 43) (v := ?_) (a' := ?_) #[true, true, true, true, true, true, true, true, false, true, false, false, true, true, true, false, false] rfl rfl (take_ofW HT_.out HW_.out (by kernel_rfl)) (fun _ _ _ h => h) (Or.inl ⟨by rfl, ?_⟩) hHeld ?_ ?_
  rotate_left
  · rintro w' ⟨s0, s1, s2, s3⟩
    go_simp
    with_reducible rfl
  rotate_left
  · simp only [Act.put, List.setIfInBounds_toArray, List.set_cons_zero, List.set_cons_succ, i64_w, i32_w]
    rfl
  refine pure_ (i := 8) (N := some 44) (v := ?_) (a' := ?_) #[true, true, true, true, true, true, true, true, true, true, false, false, true, true, true, false, false] rfl rfl (any_of HT_.out (by kernel_rfl)) (fun _ _ _ h => h) (Or.inl ⟨by rfl, ?_⟩) ?_ ?_
  rotate_left
  · intro w'
    go_simp
    with_reducible rfl
  rotate_left
  · simp only [Act.put, List.setIfInBounds_toArray, List.set_cons_zero, List.set_cons_succ, i64_w, i32_w]
    rfl
  refine take_ (i := 10) (N := some 46) (v := ?_) (a' := ?_) #[true, true, true, true, true, true, true, true, true, true, true, false, true, true, true, false, false] rfl rfl (take_ofW HT_.out HW_.out (by kernel_rfl)) (fun _ _ _ h => h) (Or.inl ⟨by rfl, ?_⟩) hHeld ?_ ?_
  rotate_left
  · rintro w' ⟨s0, s1, s2, s3⟩
    go_simp
    with_reducible rfl
  rotate_left
  · simp only [Act.put, List.setIfInBounds_toArray, List.set_cons_zero, List.set_cons_succ, i64_w, i32_w]
    rfl
  refine pure_ (i := 11) (N := some 47) (v := ?_) (a' := ?_) #[true, true, true, true, true, true, true, true, true, true, true, true, true, true, true, false, false] rfl rfl (any_of HT_.out (by kernel_rfl)) (fun _ _ _ h => h) (Or.inl ⟨by rfl, ?_⟩) ?_ ?_
  rotate_left
  · intro w'
    go_simp
    with_reducible rfl
  rotate_left
  · simp only [Act.put, List.setIfInBounds_toArray, List.set_cons_zero, List.set_cons_succ, i64_w, i32_w]
    rfl
  refine pure_ (i := 15) (N := some 5) (v := ?_) (a' := ?_) #[true, true, true, true, true, true, true, true, true, true, true, true, true, true, true, true, false] rfl rfl (any_of HT_.out (by kernel_rfl)) (fun _ _ _ h => h) (Or.inl ⟨by rfl, ?_⟩) ?_ ?_
  rotate_left
  · intro w'
    go_simp
    with_reducible rfl
  rotate_left
  · simp only [Act.put, List.setIfInBounds_toArray, List.set_cons_zero, List.set_cons_succ, i64_w, i32_w]
    rfl
  refine pure_ (i := 16) (N := some 6) (v := ?_) (a' := ?_) #[true, true, true, true, true, true, true, true, true, true, true, true, true, true, true, true, true] rfl rfl (any_of HT_.out (by kernel_rfl)) (fun _ _ _ h => h) (Or.inl ⟨by rfl, ?_⟩) ?_ ?_
  rotate_left
  · intro w'
    go_simp
    with_reducible rfl
  rotate_left
  · simp only [Act.put, List.setIfInBounds_toArray, List.set_cons_zero, List.set_cons_succ, i64_w, i32_w]
    rfl
  refine done_ (done_of HT_.out (by kernel_rfl)) ?_
  have u8 : IntKind.u8.wrap ((hi * 18446744073709551616 + lo) % 10) = (hi * 18446744073709551616 + lo) % 10 := IntWalk.u8_in _ (by omega)
  have E1 : q1 * 4294967296 + q2 = (hi * 18446744073709551616 + lo) / 10 / 18446744073709551616 := by omega
  have E2 : q3 * 4294967296 + q4 = (hi * 18446744073709551616 + lo) / 10 % 18446744073709551616 := by omega
  clear R1 R2 p1 p2
  rw [u8]
  go_wp2
  exact bodyPost_ret (v := .tuple #[.int .u64 (q1 * 4294967296 + q2), .int .u64 (q3 * 4294967296 + q4), .int .u8 ((hi * 18446744073709551616 + lo) % 10)]) (by simp [results, Tryd.results49, go_sem]) rfl ⟨by rw [E1, E2], bdrew (balloc (Below.refl _ _) (Nat.le_refl _) _)⟩
end Go.Proofs.YtjjfdamlicoeeaaDoor.X
