/- Contracts of NewVectorFromBinary where there is no vector. -/
import Derived.Test.YtjjfdamlicoeeaaDoorVecI
set_option linter.unusedVariables false
set_option linter.unusedSimpArgs false
set_option maxRecDepth 100000
namespace Go.Proofs.YtjjfdamlicoeeaaDoor.X
open Go.RowKit Go.Deep Go.Proofs.YtjjfdamlicoeeaaDoorW.PrintLast
def R39.T3 : Bool × List (List Nat × List Nat) := (true, [([], []), ([], []), ([0, 1, 0], [0]), ([1, 2, 0, 1, 2], [1])])
def R39.B3 : List Nat := [0, 0, 3, 7]
theorem R39.tab3 : rtab .any (opsOf Tryd.f39 3) = R39.T3 := by kernel_rfl
theorem R39.bits3 : waitsOk R39.T3.2 R39.B3 = true := by kernel_rfl
def R39.T7 : Bool × List (List Nat × List Nat) := (true, [([], []), ([], []), ([0, 1, 0], [0]), ([1, 2, 0, 1, 2], [1])])
def R39.B7 : List Nat := [0, 0, 3, 7]
theorem R39.tab7 : rtab .any (opsOf Tryd.f39 7) = R39.T7 := by kernel_rfl
theorem R39.bits7 : waitsOk R39.T7.2 R39.B7 = true := by kernel_rfl
theorem newErr (s : ByteArray) (w : World) : Calls Tryd.prog 66 #[.string s] w fun e w' => ∃ p, e = .returned (.iface 157 p) ∧ Below w.heap.size w w' := by
  go_enter Tryd.func66, Tryd.ntmps66
  go_wp2
  go_ret
  exact ⟨_, rfl, balloc (Below.refl _ _) (Nat.le_refl _) _⟩
theorem fromBin_sub (A : Option Addr) (n c : Nat) (k : Int) (w : World) (hk : ¬ k = 9) :
    Calls Tryd.prog 39 #[.agg #[.int .u8 k, .slice A n c]] w fun e w' => ∃ T x, e = .returned (.tuple #[vec0, .iface T x]) ∧ Below w.heap.size w w' := by
  have f1 : (k != 9) = true := by simpa using hk
  clear hk
  go_enter Tryd.func39, Tryd.ntmps39
  go_wp2_with fail
  refine start_ (n := 4) (S := fun w' => w'.cell? ⟨w.heap.size + 1 + 1, 0, none⟩ = some (.int .u8 0) ∧ w'.cell? ⟨w.heap.size + 1 + 1, 1, none⟩ = some (.slice none 0 0) ∧ w'.cell? ⟨w.heap.size + 1 + 1, 2, none⟩ = some (.slice none 0 0) ∧ w'.cell? ⟨w.heap.size + 1 + 1, 3, none⟩ = some (.slice none 0 0) ∧ w'.cell? ⟨w.heap.size + 1 + 1, 4, none⟩ = some (.int .u8 0) ∧ w'.cell? ⟨w.heap.size + 1, 0, none⟩ = some (.int .u8 0) ∧ w'.cell? ⟨w.heap.size + 1, 1, none⟩ = some (.slice none 0 0) ∧ w'.cell? ⟨w.heap.size + 1, 2, none⟩ = some (.slice none 0 0) ∧ w'.cell? ⟨w.heap.size + 1, 3, none⟩ = some (.slice none 0 0) ∧ w'.cell? ⟨w.heap.size + 1, 4, none⟩ = some (.int .u8 0) ∧ w'.frozen? ⟨w.heap.size + 1, 0, none⟩ = false ∧ w'.frozen? ⟨w.heap.size + 1, 1, none⟩ = false ∧ w'.frozen? ⟨w.heap.size + 1, 2, none⟩ = false ∧ w'.frozen? ⟨w.heap.size + 1, 3, none⟩ = false ∧ w'.frozen? ⟨w.heap.size + 1, 4, none⟩ = false) (ds := [2]) #[false, false, false, false] (by kernel_rfl) rfl rfl ⟨(by go_simp), (by go_simp), (by go_simp), (by go_simp), (by go_simp), (by go_simp), (by go_simp), (by go_simp), (by go_simp), (by go_simp), (by go_simp), (by go_simp), (by go_simp), (by go_simp), (by go_simp)⟩ (fun hHeld => ?_)
  refine with_tabW R39.tab3 R39.bits3 (fun HT_ HW_ => ?_)
  refine take_ (i := 0) (N := some 8) (v := ?_) (a' := ?_) #[true, false, false, false] rfl rfl (take_ofW HT_.out HW_.out (by kernel_rfl)) (fun _ _ _ h => h) (Or.inl ⟨by rfl, ?_⟩) hHeld ?_ ?_
  rotate_left
  · rintro w' ⟨s0, s1, s2, s3, s4, s5, s6, s7, s8, s9, s10, s11, s12, s13, s14⟩
    go_simp
    with_reducible rfl
  rotate_left
  · simp only [Act.put, List.setIfInBounds_toArray, List.set_cons_zero, List.set_cons_succ, i64_w, i32_w]
    rfl
  refine one_ (i := 1) (N := some 9) #[true, true, false, false] rfl rfl (one_of HT_.out (by kernel_rfl)) (by decide) (fun K hK => ?_)
  refine goes_ Tryd.func66 (by kernel_rfl) rfl #[.string ⟨#[110, 111, 116, 32, 97, 32, 118, 101, 99, 116, 111, 114]⟩] (by rfl) rfl rfl (by simp only [List.map_toArray, List.map_cons, List.map_nil]; rfl) ?_
  with_reducible refine (newErr _ _).mono ?_
  rintro e w3 ⟨p3, rfl, hb3⟩
  refine ⟨_, rfl, ?_⟩
  have rd0 := (hb3.cell (World.block_lt_of_cell? _ _ hHeld.2.2.2.2.2.1)).trans hHeld.2.2.2.2.2.1
  have rd1 := (hb3.cell (World.block_lt_of_cell? _ _ hHeld.2.2.2.2.2.2.1)).trans hHeld.2.2.2.2.2.2.1
  have rd2 := (hb3.cell (World.block_lt_of_cell? _ _ hHeld.2.2.2.2.2.2.2.1)).trans hHeld.2.2.2.2.2.2.2.1
  have rd3 := (hb3.cell (World.block_lt_of_cell? _ _ hHeld.2.2.2.2.2.2.2.2.1)).trans hHeld.2.2.2.2.2.2.2.2.1
  have rd4 := (hb3.cell (World.block_lt_of_cell? _ _ hHeld.2.2.2.2.2.2.2.2.2.1)).trans hHeld.2.2.2.2.2.2.2.2.2.1
  have HB3 := Lib.hid ((bdrew (balloc (balloc (balloc (Below.refl _ w) (Nat.le_refl _) _) (by simp) _) (by first | (simp; done) | (simp; omega)) _)).trans (hb3.mono (by first | (simp; done) | (simp; omega))))
  have hR3 : w.heap.size + 1 < w3.heap.size := by have := hb3.size; simp at this; omega
  refine hK.out _ _ ⟨((hb3.cell (World.block_lt_of_cell? _ _ hHeld.1)).trans hHeld.1), ((hb3.cell (World.block_lt_of_cell? _ _ hHeld.2.1)).trans hHeld.2.1), ((hb3.cell (World.block_lt_of_cell? _ _ hHeld.2.2.1)).trans hHeld.2.2.1), ((hb3.cell (World.block_lt_of_cell? _ _ hHeld.2.2.2.1)).trans hHeld.2.2.2.1), ((hb3.cell (World.block_lt_of_cell? _ _ hHeld.2.2.2.2.1)).trans hHeld.2.2.2.2.1), ((hb3.cell (World.block_lt_of_cell? _ _ hHeld.2.2.2.2.2.1)).trans hHeld.2.2.2.2.2.1), ((hb3.cell (World.block_lt_of_cell? _ _ hHeld.2.2.2.2.2.2.1)).trans hHeld.2.2.2.2.2.2.1), ((hb3.cell (World.block_lt_of_cell? _ _ hHeld.2.2.2.2.2.2.2.1)).trans hHeld.2.2.2.2.2.2.2.1), ((hb3.cell (World.block_lt_of_cell? _ _ hHeld.2.2.2.2.2.2.2.2.1)).trans hHeld.2.2.2.2.2.2.2.2.1), ((hb3.cell (World.block_lt_of_cell? _ _ hHeld.2.2.2.2.2.2.2.2.2.1)).trans hHeld.2.2.2.2.2.2.2.2.2.1), ((hb3.frozen (p := ⟨w.heap.size + 1, 0, none⟩) (by simp)).trans hHeld.2.2.2.2.2.2.2.2.2.2.1), ((hb3.frozen (p := ⟨w.heap.size + 1, 1, none⟩) (by simp)).trans hHeld.2.2.2.2.2.2.2.2.2.2.2.1), ((hb3.frozen (p := ⟨w.heap.size + 1, 2, none⟩) (by simp)).trans hHeld.2.2.2.2.2.2.2.2.2.2.2.2.1), ((hb3.frozen (p := ⟨w.heap.size + 1, 3, none⟩) (by simp)).trans hHeld.2.2.2.2.2.2.2.2.2.2.2.2.2.1), ((hb3.frozen (p := ⟨w.heap.size + 1, 4, none⟩) (by simp)).trans hHeld.2.2.2.2.2.2.2.2.2.2.2.2.2.2)⟩ (fun hHeld => ?_)
  clear hK K
  refine norm_ (a' := ?_) ?_ ?_
  rotate_left
  · show Act.put _ (some 9) _ = _
    simp only [Act.put, List.setIfInBounds_toArray, List.set_cons_zero, List.set_cons_succ, i64_w, i32_w]
    rfl
  refine last_ (i := 2) (N := none) #[true, true, true, false] rfl rfl (one_of HT_.out (by kernel_rfl)) (by decide) (fun K hK => ?_)
  refine skip_ (w1 := ?_) (by rfl) rfl ?_ ?_
  rotate_left
  · go_simp
    rfl
  refine hK.out _ _ ?_
  clear hK K
  refine pure_ (i := 3) (N := some 3) (v := ?_) (a' := ?_) #[true, true, true, true] rfl rfl (any_of HT_.out (by kernel_rfl)) (fun _ _ _ h => h) (Or.inl ⟨by rfl, ?_⟩) ?_ ?_
  rotate_left
  · intro w'
    go_simp
    with_reducible rfl
  rotate_left
  · simp only [Act.put, List.setIfInBounds_toArray, List.set_cons_zero, List.set_cons_succ, i64_w, i32_w]
    rfl
  refine done_ (done_of HT_.out (by kernel_rfl)) ?_
  go_wp2_with fail
  have hbb : w.heap.size ≤ w.heap.size + 1 := Nat.le_succ _
  exact bodyPost_ret (v := .tuple #[vec0, .iface 157 p3]) (by simp [results, Tryd.results39, go_sem, vec0, rd0, rd1, rd2, rd3, rd4, hR3]) rfl ⟨_, p3, rfl, ((((HB3.out.setCell hbb _).setCell hbb _).setCell hbb _).setCell hbb _).setCell hbb _⟩

theorem fromBin_short (A : Option Addr) (n c : Nat) (w : World) (hE : Errs w) (hn : n < 2) :
    Calls Tryd.prog 39 #[.agg #[.int .u8 9, .slice A n c]] w fun e w' => ∃ T x, e = .returned (.tuple #[vec0, .iface T x]) ∧ Below w.heap.size w w' := by
  obtain ⟨T, x, hx⟩ := hE.short
  have hlt : 6 < w.heap.size := World.block_lt_of_cell? w _ hx
  have hlt1 : 6 < w.heap.size + 1 := by omega
  have hlt2 : 6 < w.heap.size + 1 + 1 := by omega
  have d1 : decide ((n : Int) < 2) = true := by simp; omega
  clear hn hE
  go_enter Tryd.func39, Tryd.ntmps39
  go_wp2_with fail
  go_region
  all_goals go_wp2_with fail
  have hbb : w.heap.size ≤ w.heap.size + 1 := Nat.le_succ _
  exact bodyPost_ret (v := .tuple #[vec0, .iface T x]) (by simp [results, Tryd.results39, go_sem, vec0]) rfl ⟨T, x, rfl, bdrew (balloc (balloc (balloc (Below.refl _ w) (Nat.le_refl _) _) (by simp) _) (by first | (simp; done) | (simp; omega)) _)⟩
theorem fromBin_kind (A : Option Addr) (c : Nat) (k : UInt8) (r : List UInt8) (w : World) (hs : SB w A c (k :: r)) (hr : 1 ≤ r.length) (h3 : k ≠ 3) (h16 : k ≠ 16) (h39 : k ≠ 39) (hl : r.length ≤ 1000000) :
    Calls Tryd.prog 39 #[.agg #[.int .u8 9, .slice A (r.length + 1) c]] w fun e w' => ∃ T x, e = .returned (.tuple #[vec0, .iface T x]) ∧ Below w.heap.size w w' := by
  obtain ⟨b, off, rfl, hc⟩ := hs.cells (by simp)
  have hc0 := hc 0 (by simp)
  simp at hc0
  have hblt : b < w.heap.size := World.block_lt_of_cell? w _ hc0
  have hb1 : b < w.heap.size + 1 := by omega
  have hb2 : b < w.heap.size + 1 + 1 := by omega
  obtain ⟨q, hq⟩ : ∃ q, q = r.length := ⟨_, rfl⟩
  obtain ⟨y, hy⟩ : ∃ y : Int, y = (k.toNat : Int) := ⟨_, rfl⟩
  have ne : ∀ n : Nat, n < 256 → k ≠ UInt8.ofNat n → ((k.toNat : Int) == (n : Int)) = false := fun n hn h => by
    rw [beq_eq_false_iff_ne]
    intro e
    apply h
    have e2 : k.toNat = n := by omega
    rw [← e2]
    simp
  have n3 := ne 3 (by omega) h3
  have n16 := ne 16 (by omega) h16
  have n39 := ne 39 (by omega) h39
  rw [← hy] at n3 n16 n39 hc0
  rw [← hq] at hr
  rw [← hq]
  have d1 : decide ((q : Int) + 1 < 2) = false := by simp; omega
  simp only [Int.cast_ofNat_Int] at n3 n16 n39
  clear hq hy hs hc ne h3 h16 h39 hl hr
  go_enter Tryd.func39, Tryd.ntmps39
  go_wp2_with fail
  refine start_ (n := 4) (S := fun w' => w'.cell? ⟨w.heap.size + 1 + 1, 0, none⟩ = some (.int .u8 0) ∧ w'.cell? ⟨w.heap.size + 1 + 1, 1, none⟩ = some (.slice none 0 0) ∧ w'.cell? ⟨w.heap.size + 1 + 1, 2, none⟩ = some (.slice none 0 0) ∧ w'.cell? ⟨w.heap.size + 1 + 1, 3, none⟩ = some (.slice none 0 0) ∧ w'.cell? ⟨w.heap.size + 1 + 1, 4, none⟩ = some (.int .u8 0) ∧ w'.cell? ⟨w.heap.size + 1, 0, none⟩ = some (.int .u8 0) ∧ w'.cell? ⟨w.heap.size + 1, 1, none⟩ = some (.slice none 0 0) ∧ w'.cell? ⟨w.heap.size + 1, 2, none⟩ = some (.slice none 0 0) ∧ w'.cell? ⟨w.heap.size + 1, 3, none⟩ = some (.slice none 0 0) ∧ w'.cell? ⟨w.heap.size + 1, 4, none⟩ = some (.int .u8 0) ∧ w'.frozen? ⟨w.heap.size + 1, 0, none⟩ = false ∧ w'.frozen? ⟨w.heap.size + 1, 1, none⟩ = false ∧ w'.frozen? ⟨w.heap.size + 1, 2, none⟩ = false ∧ w'.frozen? ⟨w.heap.size + 1, 3, none⟩ = false ∧ w'.frozen? ⟨w.heap.size + 1, 4, none⟩ = false) (ds := [2]) #[false, false, false, false] (by kernel_rfl) rfl rfl ⟨(by go_simp), (by go_simp), (by go_simp), (by go_simp), (by go_simp), (by go_simp), (by go_simp), (by go_simp), (by go_simp), (by go_simp), (by go_simp), (by go_simp), (by go_simp), (by go_simp), (by go_simp)⟩ (fun hHeld => ?_)
  refine with_tabW R39.tab7 R39.bits7 (fun HT_ HW_ => ?_)
  refine take_ (i := 0) (N := some 20) (v := ?_) (a' := ?_) #[true, false, false, false] rfl rfl (take_ofW HT_.out HW_.out (by kernel_rfl)) (fun _ _ _ h => h) (Or.inl ⟨by rfl, ?_⟩) hHeld ?_ ?_
  rotate_left
  · rintro w' ⟨s0, s1, s2, s3, s4, s5, s6, s7, s8, s9, s10, s11, s12, s13, s14⟩
    go_simp
    with_reducible rfl
  rotate_left
  · simp only [Act.put, List.setIfInBounds_toArray, List.set_cons_zero, List.set_cons_succ, i64_w, i32_w]
    rfl
  refine one_ (i := 1) (N := some 21) #[true, true, false, false] rfl rfl (one_of HT_.out (by kernel_rfl)) (by decide) (fun K hK => ?_)
  refine goes_ Tryd.func66 (by kernel_rfl) rfl #[.string ⟨#[105, 110, 118, 97, 108, 105, 100, 32, 86, 101, 99, 116, 111, 114, 32, 100, 97, 116, 97, 32, 116, 121, 112, 101]⟩] (by rfl) rfl rfl (by simp only [List.map_toArray, List.map_cons, List.map_nil]; rfl) ?_
  with_reducible refine (newErr _ _).mono ?_
  rintro e w3 ⟨p3, rfl, hb3⟩
  refine ⟨_, rfl, ?_⟩
  have rd0 := (hb3.cell (World.block_lt_of_cell? _ _ hHeld.2.2.2.2.2.1)).trans hHeld.2.2.2.2.2.1
  have rd1 := (hb3.cell (World.block_lt_of_cell? _ _ hHeld.2.2.2.2.2.2.1)).trans hHeld.2.2.2.2.2.2.1
  have rd2 := (hb3.cell (World.block_lt_of_cell? _ _ hHeld.2.2.2.2.2.2.2.1)).trans hHeld.2.2.2.2.2.2.2.1
  have rd3 := (hb3.cell (World.block_lt_of_cell? _ _ hHeld.2.2.2.2.2.2.2.2.1)).trans hHeld.2.2.2.2.2.2.2.2.1
  have rd4 := (hb3.cell (World.block_lt_of_cell? _ _ hHeld.2.2.2.2.2.2.2.2.2.1)).trans hHeld.2.2.2.2.2.2.2.2.2.1
  have HB3 := Lib.hid ((bdrew (balloc (balloc (balloc (Below.refl _ w) (Nat.le_refl _) _) (by simp) _) (by first | (simp; done) | (simp; omega)) _)).trans (hb3.mono (by first | (simp; done) | (simp; omega))))
  have hR3 : w.heap.size + 1 < w3.heap.size := by have := hb3.size; simp at this; omega
  refine hK.out _ _ ⟨((hb3.cell (World.block_lt_of_cell? _ _ hHeld.1)).trans hHeld.1), ((hb3.cell (World.block_lt_of_cell? _ _ hHeld.2.1)).trans hHeld.2.1), ((hb3.cell (World.block_lt_of_cell? _ _ hHeld.2.2.1)).trans hHeld.2.2.1), ((hb3.cell (World.block_lt_of_cell? _ _ hHeld.2.2.2.1)).trans hHeld.2.2.2.1), ((hb3.cell (World.block_lt_of_cell? _ _ hHeld.2.2.2.2.1)).trans hHeld.2.2.2.2.1), ((hb3.cell (World.block_lt_of_cell? _ _ hHeld.2.2.2.2.2.1)).trans hHeld.2.2.2.2.2.1), ((hb3.cell (World.block_lt_of_cell? _ _ hHeld.2.2.2.2.2.2.1)).trans hHeld.2.2.2.2.2.2.1), ((hb3.cell (World.block_lt_of_cell? _ _ hHeld.2.2.2.2.2.2.2.1)).trans hHeld.2.2.2.2.2.2.2.1), ((hb3.cell (World.block_lt_of_cell? _ _ hHeld.2.2.2.2.2.2.2.2.1)).trans hHeld.2.2.2.2.2.2.2.2.1), ((hb3.cell (World.block_lt_of_cell? _ _ hHeld.2.2.2.2.2.2.2.2.2.1)).trans hHeld.2.2.2.2.2.2.2.2.2.1), ((hb3.frozen (p := ⟨w.heap.size + 1, 0, none⟩) (by simp)).trans hHeld.2.2.2.2.2.2.2.2.2.2.1), ((hb3.frozen (p := ⟨w.heap.size + 1, 1, none⟩) (by simp)).trans hHeld.2.2.2.2.2.2.2.2.2.2.2.1), ((hb3.frozen (p := ⟨w.heap.size + 1, 2, none⟩) (by simp)).trans hHeld.2.2.2.2.2.2.2.2.2.2.2.2.1), ((hb3.frozen (p := ⟨w.heap.size + 1, 3, none⟩) (by simp)).trans hHeld.2.2.2.2.2.2.2.2.2.2.2.2.2.1), ((hb3.frozen (p := ⟨w.heap.size + 1, 4, none⟩) (by simp)).trans hHeld.2.2.2.2.2.2.2.2.2.2.2.2.2.2)⟩ (fun hHeld => ?_)
  clear hK K
  refine norm_ (a' := ?_) ?_ ?_
  rotate_left
  · show Act.put _ (some 21) _ = _
    simp only [Act.put, List.setIfInBounds_toArray, List.set_cons_zero, List.set_cons_succ, i64_w, i32_w]
    rfl
  refine last_ (i := 2) (N := none) #[true, true, true, false] rfl rfl (one_of HT_.out (by kernel_rfl)) (by decide) (fun K hK => ?_)
  refine skip_ (w1 := ?_) (by rfl) rfl ?_ ?_
  rotate_left
  · go_simp
    rfl
  refine hK.out _ _ ?_
  clear hK K
  refine pure_ (i := 3) (N := some 3) (v := ?_) (a' := ?_) #[true, true, true, true] rfl rfl (any_of HT_.out (by kernel_rfl)) (fun _ _ _ h => h) (Or.inl ⟨by rfl, ?_⟩) ?_ ?_
  rotate_left
  · intro w'
    go_simp
    with_reducible rfl
  rotate_left
  · simp only [Act.put, List.setIfInBounds_toArray, List.set_cons_zero, List.set_cons_succ, i64_w, i32_w]
    rfl
  refine done_ (done_of HT_.out (by kernel_rfl)) ?_
  go_wp2_with fail
  have hbb : w.heap.size ≤ w.heap.size + 1 := Nat.le_succ _
  exact bodyPost_ret (v := .tuple #[vec0, .iface 157 p3]) (by simp [results, Tryd.results39, go_sem, vec0, rd0, rd1, rd2, rd3, rd4, hR3]) rfl ⟨_, p3, rfl, ((((HB3.out.setCell hbb _).setCell hbb _).setCell hbb _).setCell hbb _).setCell hbb _⟩
end Go.Proofs.YtjjfdamlicoeeaaDoor.X
