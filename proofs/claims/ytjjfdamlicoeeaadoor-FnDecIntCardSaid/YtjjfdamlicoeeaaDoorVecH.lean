/- Contracts of the readings of a vector of bits, and of the laws' helpers on it. -/
import Derived.Test.YtjjfdamlicoeeaaDoorVecG
import Derived.Test.YtjjfdamlicoeeaaDoorVecE
import Derived.IntWalk
set_option linter.unusedVariables false
set_option linter.unusedSimpArgs false
set_option maxRecDepth 100000
namespace Go.Proofs.YtjjfdamlicoeeaaDoor.X
open Go.RowKit Go.Deep Go.Proofs.YtjjfdamlicoeeaaDoorW.PrintLast
theorem bitInt8no (A : Option Addr) (n c : Nat) (p : Int) (w : World) : Calls Tryd.prog 41 #[vecBit A n c p] w fun e w' => e = .returned (.tuple #[.slice none 0 0, .bool false]) ∧ Below w.heap.size w w' := by
  unfold vecBit
  go_enter Tryd.func41, Tryd.ntmps41
  go_wp2
  go_ret2
  exact ⟨rfl, balloc (Below.refl _ _) (Nat.le_refl _) _⟩
theorem bitF32no (A : Option Addr) (n c : Nat) (p : Int) (w : World) : Calls Tryd.prog 42 #[vecBit A n c p] w fun e w' => e = .returned (.tuple #[.slice none 0 0, .bool false]) ∧ Below w.heap.size w w' := by
  unfold vecBit
  go_enter Tryd.func42, Tryd.ntmps42
  go_wp2
  go_ret2
  exact ⟨rfl, balloc (Below.refl _ _) (Nat.le_refl _) _⟩
theorem bitType (A : Option Addr) (n c : Nat) (p : Int) (w : World) : Calls Tryd.prog 40 #[vecBit A n c p] w fun e w' => e = .returned (.int .u8 16) ∧ Below w.heap.size w w' := by
  unfold vecBit
  go_enter Tryd.func40, Tryd.ntmps40
  go_wp2
  go_ret
  exact ⟨rfl, balloc (Below.refl _ _) (Nat.le_refl _) _⟩
theorem bitBits (A : Option Addr) (n c : Nat) (p : Int) (w : World) : Calls Tryd.prog 44 #[vecBit A n c p] w fun e w' => e = .returned (.tuple #[.slice A n c, .int .u8 p, .bool true]) ∧ Below w.heap.size w w' := by
  unfold vecBit
  go_enter Tryd.func44, Tryd.ntmps44
  go_wp2_with fail
  go_region
  all_goals go_wp2_with fail
  exact bodyPost_ret (v := .tuple #[.slice A n c, .int .u8 p, .bool true]) (by simp [results, Tryd.results44, go_sem]) rfl ⟨rfl, by first | exact bdrew (balloc (Below.refl _ _) (Nat.le_refl _) _) | exact balloc (Below.refl _ _) (Nat.le_refl _) _⟩
/-- A vector of bits, as the thin package gives it. -/
def ivec16 (A : Option Addr) (n c : Nat) (p : Int) : Value := .agg #[.int .i64 16, .slice none 0 0, .slice none 0 0, .slice A n c, .int .i64 p]
theorem vBytes16 (A : Option Addr) (c : Nat) (l : List UInt8) (p : UInt8) (w : World) (hs : SB w A c l) (hl : l.length ≤ 1000000) :
    Calls Tryd.prog 24 #[ivec16 A l.length c p.toNat] w fun e w' => ∃ A1 c1, e = .returned (.slice A1 (16 :: p :: l).length c1) ∧ SB w' A1 c1 (16 :: p :: l) ∧ Below w.heap.size w w' := by
  have hpb := p.toNat_lt
  have hw8 : IntKind.u8.wrap (p.toNat : Int) = (p.toNat : Int) := IntWalk.u8_in _ (by omega)
  have hcs : ([.int .u8 16, .int .u8 (p.toNat : Int)] : List Value) = byv [16, p] := rfl
  have hsb := (hs.alloc (.cells #[.int .i64 16, .slice none 0 0, .slice none 0 0, .slice A l.length c, .int .i64 (p.toNat : Int)] 42)).alloc (.cells #[.int .u8 16, .int .u8 (p.toNat : Int)] 5)
  have hob := OB.lit_ (E := 5) (w.alloc (.cells #[.int .i64 16, .slice none 0 0, .slice none 0 0, .slice A l.length c, .int .i64 (p.toNat : Int)] 42)) (w.heap.size + 1) (by simp) [16, p] _ hcs (by simp) 2 rfl
  rw [World.size_alloc] at hob
  obtain ⟨q, hq⟩ : ∃ q, q = l.length := ⟨_, rfl⟩
  obtain ⟨y, hy⟩ : ∃ y : Int, y = (p.toNat : Int) := ⟨_, rfl⟩
  rw [← hq, ← hy] at hsb hob
  rw [← hy] at hw8
  rw [← hq, ← hy]
  have HQ := Lib.hid hq
  have HSB := Lib.hid hsb
  have HOB := Lib.hid hob
  clear hq hy hs hsb hob hcs
  unfold ivec16
  go_enter Tryd.func24, Tryd.ntmps24
  go_wp2_with (first | (refine wp_app (.tmp 58) (.tmp 60) 38 rfl rfl infoU8 Tryd.underlying38 _ (w.heap.size + 1) (.slice (some ⟨w.heap.size + 1, 0, none⟩) 2 2) [16, p] A c l rfl ?a0 ?a1 ?a2 ?a3 ?a4 ?_) | fail)
  case a0 => rw [← HQ.out]; rfl
  case a1 => exact HOB.out
  case a2 => have := HSB.out; exact this
  case a3 => simp
  case a4 => have := HQ.out; simp; omega
  intro v1 w1 hap
  obtain ⟨A1, c1, hv1, hs1, -⟩ := hap.own.sb
  have hend := (balloc (balloc (Below.refl _ w) (Nat.le_refl _) _) (by simp) _).trans ((hap.kept HOB.out (by simp)).mono (by omega))
  have HS1 := Lib.hid hs1
  have HEND := Lib.hid hend
  obtain ⟨N, hN⟩ : ∃ N, N = (16 :: p :: l).length := ⟨_, rfl⟩
  rw [← hN] at hv1
  have HN := Lib.hid hN
  clear hap hs1 hend hN
  subst hv1
  go_wp2_with fail
  go_ret
  exact ⟨A1, c1, by rw [HN.out]; rfl, HS1.out, HEND.out⟩
theorem vecSame16 (A1 A2 : Option Addr) (c1 c2 : Nat) (l : List UInt8) (p : UInt8) (w : World) (h1 : SB w A1 c1 l) (h2 : SB w A2 c2 l) (hl : l.length ≤ 1000000) :
    Calls Tryd.prog 21 #[ivec16 A1 l.length c1 p.toNat, ivec16 A2 l.length c2 p.toNat] w fun e w' => e = .returned (.bool true) ∧ Below w.heap.size w w' := by
  have HV1 := Lib.hid (fun wx (h : Below w.heap.size w wx) => vBytes16 A1 c1 l p wx (h1.keep h) hl)
  have HV2 := Lib.hid (fun wx (h : Below w.heap.size w wx) => vBytes16 A2 c2 l p wx (h2.keep h) hl)
  have HB := Lib.hid (fun A1 A2 c1 c2 wx g1 g2 => vecBytesEq A1 A2 c1 c2 (16 :: p :: l) wx g1 g2)
  obtain ⟨n, hn⟩ : ∃ n, n = (16 :: p :: l).length := ⟨_, rfl⟩
  obtain ⟨q, hq⟩ : ∃ q, q = l.length := ⟨_, rfl⟩
  obtain ⟨y, hy⟩ : ∃ y : Int, y = (p.toNat : Int) := ⟨_, rfl⟩
  rw [← hq, ← hn, ← hy] at HV1 HV2
  rw [← hn] at HB
  rw [← hq, ← hy]
  unfold ivec16 at HV1 HV2 ⊢
  clear hn hq hy h1 h2 hl
  go_enter Tryd.func21, Tryd.ntmps21
  go_wp2_with fail
  refine start_ (n := 20) (S := fun w' => w'.cell? ⟨w.heap.size, 0, none⟩ = some (.int .i64 16) ∧ w'.cell? ⟨w.heap.size, 1, none⟩ = some (.slice none 0 0) ∧ w'.cell? ⟨w.heap.size, 2, none⟩ = some (.slice none 0 0) ∧ w'.cell? ⟨w.heap.size, 3, none⟩ = some (.slice A1 q c1) ∧ w'.cell? ⟨w.heap.size, 4, none⟩ = some (.int .i64 y) ∧ w'.cell? ⟨w.heap.size + 1, 0, none⟩ = some (.int .i64 16) ∧ w'.cell? ⟨w.heap.size + 1, 1, none⟩ = some (.slice none 0 0) ∧ w'.cell? ⟨w.heap.size + 1, 2, none⟩ = some (.slice none 0 0) ∧ w'.cell? ⟨w.heap.size + 1, 3, none⟩ = some (.slice A2 q c2) ∧ w'.cell? ⟨w.heap.size + 1, 4, none⟩ = some (.int .i64 y)) (ds := []) #[false, false, false, false, false, false, false, false, false, false, false, false, false, false, false, false, false, false, false, false] (by kernel_rfl) rfl rfl ⟨(by go_simp), (by go_simp), (by go_simp), (by go_simp), (by go_simp), (by go_simp), (by go_simp), (by go_simp), (by go_simp), (by go_simp)⟩ (fun hHeld => ?_)
  refine with_tabW R21.tab1 R21.bits1 (fun HT_ HW_ => ?_)
  refine pure_ (i := 0) (N := some 5) (v := ?_) (a' := ?_) #[true, false, false, false, false, false, false, false, false, false, false, false, false, false, false, false, false, false, false, false] rfl rfl (any_of HT_.out (by kernel_rfl)) (fun _ _ _ h => h) (Or.inl ⟨by rfl, ?_⟩) ?_ ?_
  rotate_left
  · intro w'
    go_simp
    with_reducible rfl
  rotate_left
  · simp only [Act.put, List.setIfInBounds_toArray, List.set_cons_zero, List.set_cons_succ, i64_w, i32_w]
    rfl
  refine pure_ (i := 2) (N := some 7) (v := ?_) (a' := ?_) #[true, false, true, false, false, false, false, false, false, false, false, false, false, false, false, false, false, false, false, false] rfl rfl (any_of HT_.out (by kernel_rfl)) (fun _ _ _ h => h) (Or.inl ⟨by rfl, ?_⟩) ?_ ?_
  rotate_left
  · intro w'
    go_simp
    with_reducible rfl
  rotate_left
  · simp only [Act.put, List.setIfInBounds_toArray, List.set_cons_zero, List.set_cons_succ, i64_w, i32_w]
    rfl
  refine take_ (i := 1) (N := some 6) (v := ?_) (a' := ?_) #[true, true, true, false, false, false, false, false, false, false, false, false, false, false, false, false, false, false, false, false] rfl rfl (take_ofW HT_.out HW_.out (by kernel_rfl)) (fun _ _ _ h => h) (Or.inl ⟨by rfl, ?_⟩) hHeld ?_ ?_
  rotate_left
  · rintro w' ⟨s0, s1, s2, s3, s4, s5, s6, s7, s8, s9⟩
    go_simp
    with_reducible rfl
  rotate_left
  · simp only [Act.put, List.setIfInBounds_toArray, List.set_cons_zero, List.set_cons_succ, i64_w, i32_w]
    rfl
  refine take_ (i := 3) (N := some 8) (v := ?_) (a' := ?_) #[true, true, true, true, false, false, false, false, false, false, false, false, false, false, false, false, false, false, false, false] rfl rfl (take_ofW HT_.out HW_.out (by kernel_rfl)) (fun _ _ _ h => h) (Or.inl ⟨by rfl, ?_⟩) hHeld ?_ ?_
  rotate_left
  · rintro w' ⟨s0, s1, s2, s3, s4, s5, s6, s7, s8, s9⟩
    go_simp
    with_reducible rfl
  rotate_left
  · simp only [Act.put, List.setIfInBounds_toArray, List.set_cons_zero, List.set_cons_succ, i64_w, i32_w]
    rfl
  refine pure_ (i := 4) (N := some 9) (v := ?_) (a' := ?_) #[true, true, true, true, true, false, false, false, false, false, false, false, false, false, false, false, false, false, false, false] rfl rfl (any_of HT_.out (by kernel_rfl)) (fun _ _ _ h => h) (Or.inl ⟨by rfl, ?_⟩) ?_ ?_
  rotate_left
  · intro w'
    go_simp
    with_reducible rfl
  rotate_left
  · simp only [Act.put, List.setIfInBounds_toArray, List.set_cons_zero, List.set_cons_succ, i64_w, i32_w]
    rfl
  refine pure_ (i := 5) (N := some 10) (v := ?_) (a' := ?_) #[true, true, true, true, true, true, false, false, false, false, false, false, false, false, false, false, false, false, false, false] rfl rfl (any_of HT_.out (by kernel_rfl)) (fun _ _ _ h => h) (Or.inl ⟨by rfl, ?_⟩) ?_ ?_
  rotate_left
  · intro w'
    go_simp
    with_reducible rfl
  rotate_left
  · simp only [Act.put, List.setIfInBounds_toArray, List.set_cons_zero, List.set_cons_succ, i64_w, i32_w]
    rfl
  refine pure_ (i := 6) (N := some 11) (v := ?_) (a' := ?_) #[true, true, true, true, true, true, true, false, false, false, false, false, false, false, false, false, false, false, false, false] rfl rfl (any_of HT_.out (by kernel_rfl)) (fun _ _ _ h => h) (Or.inl ⟨by rfl, ?_⟩) ?_ ?_
  rotate_left
  · intro w'
    go_simp
    with_reducible rfl
  rotate_left
  · simp only [Act.put, List.setIfInBounds_toArray, List.set_cons_zero, List.set_cons_succ, i64_w, i32_w]
    rfl
  refine pure_ (i := 8) (N := some 13) (v := ?_) (a' := ?_) #[true, true, true, true, true, true, true, false, true, false, false, false, false, false, false, false, false, false, false, false] rfl rfl (any_of HT_.out (by kernel_rfl)) (fun _ _ _ h => h) (Or.inl ⟨by rfl, ?_⟩) ?_ ?_
  rotate_left
  · intro w'
    go_simp
    with_reducible rfl
  rotate_left
  · simp only [Act.put, List.setIfInBounds_toArray, List.set_cons_zero, List.set_cons_succ, i64_w, i32_w]
    rfl
  refine take_ (i := 7) (N := some 12) (v := ?_) (a' := ?_) #[true, true, true, true, true, true, true, true, true, false, false, false, false, false, false, false, false, false, false, false] rfl rfl (take_ofW HT_.out HW_.out (by kernel_rfl)) (fun _ _ _ h => h) (Or.inl ⟨by rfl, ?_⟩) hHeld ?_ ?_
  rotate_left
  · rintro w' ⟨s0, s1, s2, s3, s4, s5, s6, s7, s8, s9⟩
    go_simp
    with_reducible rfl
  rotate_left
  · simp only [Act.put, List.setIfInBounds_toArray, List.set_cons_zero, List.set_cons_succ, i64_w, i32_w]
    rfl
  refine take_ (i := 9) (N := some 14) (v := ?_) (a' := ?_) #[true, true, true, true, true, true, true, true, true, true, false, false, false, false, false, false, false, false, false, false] rfl rfl (take_ofW HT_.out HW_.out (by kernel_rfl)) (fun _ _ _ h => h) (Or.inl ⟨by rfl, ?_⟩) hHeld ?_ ?_
  rotate_left
  · rintro w' ⟨s0, s1, s2, s3, s4, s5, s6, s7, s8, s9⟩
    go_simp
    with_reducible rfl
  rotate_left
  · simp only [Act.put, List.setIfInBounds_toArray, List.set_cons_zero, List.set_cons_succ, i64_w, i32_w]
    rfl
  refine pure_ (i := 10) (N := some 15) (v := ?_) (a' := ?_) #[true, true, true, true, true, true, true, true, true, true, true, false, false, false, false, false, false, false, false, false] rfl rfl (any_of HT_.out (by kernel_rfl)) (fun _ _ _ h => h) (Or.inl ⟨by rfl, ?_⟩) ?_ ?_
  rotate_left
  · intro w'
    go_simp
    with_reducible rfl
  rotate_left
  · simp only [Act.put, List.setIfInBounds_toArray, List.set_cons_zero, List.set_cons_succ, i64_w, i32_w]
    rfl
  refine pure_ (i := 11) (N := some 16) (v := ?_) (a' := ?_) #[true, true, true, true, true, true, true, true, true, true, true, true, false, false, false, false, false, false, false, false] rfl rfl (any_of HT_.out (by kernel_rfl)) (fun _ _ _ h => h) (Or.inl ⟨by rfl, ?_⟩) ?_ ?_
  rotate_left
  · intro w'
    go_simp
    with_reducible rfl
  rotate_left
  · simp only [Act.put, List.setIfInBounds_toArray, List.set_cons_zero, List.set_cons_succ, i64_w, i32_w]
    rfl
  refine pure_ (i := 12) (N := some 17) (v := ?_) (a' := ?_) #[true, true, true, true, true, true, true, true, true, true, true, true, true, false, false, false, false, false, false, false] rfl rfl (any_of HT_.out (by kernel_rfl)) (fun _ _ _ h => h) (Or.inl ⟨by rfl, ?_⟩) ?_ ?_
  rotate_left
  · intro w'
    go_simp
    with_reducible rfl
  rotate_left
  · simp only [Act.put, List.setIfInBounds_toArray, List.set_cons_zero, List.set_cons_succ, i64_w, i32_w]
    rfl
  refine take_ (i := 13) (N := some 18) (v := ?_) (a' := ?_) #[true, true, true, true, true, true, true, true, true, true, true, true, true, true, false, false, false, false, false, false] rfl rfl (take_ofW HT_.out HW_.out (by kernel_rfl)) (fun _ _ _ h => h) (Or.inl ⟨by rfl, ?_⟩) hHeld ?_ ?_
  rotate_left
  · rintro w' ⟨s0, s1, s2, s3, s4, s5, s6, s7, s8, s9⟩
    go_simp
    with_reducible rfl
  rotate_left
  · simp only [Act.put, List.setIfInBounds_toArray, List.set_cons_zero, List.set_cons_succ, i64_w, i32_w]
    rfl
  refine take_ (i := 15) (N := some 20) (v := ?_) (a' := ?_) #[true, true, true, true, true, true, true, true, true, true, true, true, true, true, false, true, false, false, false, false] rfl rfl (take_ofW HT_.out HW_.out (by kernel_rfl)) (fun _ _ _ h => h) (Or.inl ⟨by rfl, ?_⟩) hHeld ?_ ?_
  rotate_left
  · rintro w' ⟨s0, s1, s2, s3, s4, s5, s6, s7, s8, s9⟩
    go_simp
    with_reducible rfl
  rotate_left
  · simp only [Act.put, List.setIfInBounds_toArray, List.set_cons_zero, List.set_cons_succ, i64_w, i32_w]
    rfl
  refine one_ (i := 14) (N := some 19) #[true, true, true, true, true, true, true, true, true, true, true, true, true, true, true, true, false, false, false, false] rfl rfl (one_of HT_.out (by kernel_rfl)) (by decide) (fun K hK => ?_)
  refine goes_ Tryd.func24 (by kernel_rfl) rfl #[.agg #[.int .i64 16, .slice none 0 0, .slice none 0 0, .slice A1 q c1, .int .i64 y]] (by rfl) rfl rfl (by simp only [List.map_toArray, List.map_cons, List.map_nil]; rfl) ?_
  with_reducible refine (HV1.out _ (bdrew (balloc (balloc (Below.refl _ _) (Nat.le_refl _) _) (by simp) _))).mono ?_
  rintro e w3 ⟨A3, c3, rfl, hs3, hb3⟩
  refine ⟨_, rfl, ?_⟩
  have HB3 := Lib.hid ((bdrew (balloc (balloc (Below.refl _ w) (Nat.le_refl _) _) (by simp) _)).trans (hb3.mono (by simp; omega)))
  have HS3 := Lib.hid hs3
  refine hK.out _ _ ⟨((hb3.cell (World.block_lt_of_cell? _ _ hHeld.1)).trans hHeld.1), ((hb3.cell (World.block_lt_of_cell? _ _ hHeld.2.1)).trans hHeld.2.1), ((hb3.cell (World.block_lt_of_cell? _ _ hHeld.2.2.1)).trans hHeld.2.2.1), ((hb3.cell (World.block_lt_of_cell? _ _ hHeld.2.2.2.1)).trans hHeld.2.2.2.1), ((hb3.cell (World.block_lt_of_cell? _ _ hHeld.2.2.2.2.1)).trans hHeld.2.2.2.2.1), ((hb3.cell (World.block_lt_of_cell? _ _ hHeld.2.2.2.2.2.1)).trans hHeld.2.2.2.2.2.1), ((hb3.cell (World.block_lt_of_cell? _ _ hHeld.2.2.2.2.2.2.1)).trans hHeld.2.2.2.2.2.2.1), ((hb3.cell (World.block_lt_of_cell? _ _ hHeld.2.2.2.2.2.2.2.1)).trans hHeld.2.2.2.2.2.2.2.1), ((hb3.cell (World.block_lt_of_cell? _ _ hHeld.2.2.2.2.2.2.2.2.1)).trans hHeld.2.2.2.2.2.2.2.2.1), ((hb3.cell (World.block_lt_of_cell? _ _ hHeld.2.2.2.2.2.2.2.2.2)).trans hHeld.2.2.2.2.2.2.2.2.2)⟩ (fun hHeld => ?_)
  clear hK K
  refine norm_ (a' := ?_) ?_ ?_
  rotate_left
  · show Act.put _ (some 19) _ = _
    simp only [Act.put, List.setIfInBounds_toArray, List.set_cons_zero, List.set_cons_succ, i64_w, i32_w]
    rfl
  refine one_ (i := 16) (N := some 21) #[true, true, true, true, true, true, true, true, true, true, true, true, true, true, true, true, true, false, false, false] rfl rfl (one_of HT_.out (by kernel_rfl)) (by decide) (fun K hK => ?_)
  refine goes_ Tryd.func24 (by kernel_rfl) rfl #[.agg #[.int .i64 16, .slice none 0 0, .slice none 0 0, .slice A2 q c2, .int .i64 y]] (by rfl) rfl rfl (by simp only [List.map_toArray, List.map_cons, List.map_nil]; rfl) ?_
  with_reducible refine (HV2.out _ HB3.out).mono ?_
  rintro e w4 ⟨A4, c4, rfl, hs4, hb4⟩
  refine ⟨_, rfl, ?_⟩
  have HB4 := Lib.hid (bthen HB3.out hb4)
  have HS4 := Lib.hid hs4
  have HS34 := Lib.hid (HS3.out.keep hb4)
  refine hK.out _ _ ⟨((hb4.cell (World.block_lt_of_cell? _ _ hHeld.1)).trans hHeld.1), ((hb4.cell (World.block_lt_of_cell? _ _ hHeld.2.1)).trans hHeld.2.1), ((hb4.cell (World.block_lt_of_cell? _ _ hHeld.2.2.1)).trans hHeld.2.2.1), ((hb4.cell (World.block_lt_of_cell? _ _ hHeld.2.2.2.1)).trans hHeld.2.2.2.1), ((hb4.cell (World.block_lt_of_cell? _ _ hHeld.2.2.2.2.1)).trans hHeld.2.2.2.2.1), ((hb4.cell (World.block_lt_of_cell? _ _ hHeld.2.2.2.2.2.1)).trans hHeld.2.2.2.2.2.1), ((hb4.cell (World.block_lt_of_cell? _ _ hHeld.2.2.2.2.2.2.1)).trans hHeld.2.2.2.2.2.2.1), ((hb4.cell (World.block_lt_of_cell? _ _ hHeld.2.2.2.2.2.2.2.1)).trans hHeld.2.2.2.2.2.2.2.1), ((hb4.cell (World.block_lt_of_cell? _ _ hHeld.2.2.2.2.2.2.2.2.1)).trans hHeld.2.2.2.2.2.2.2.2.1), ((hb4.cell (World.block_lt_of_cell? _ _ hHeld.2.2.2.2.2.2.2.2.2)).trans hHeld.2.2.2.2.2.2.2.2.2)⟩ (fun hHeld => ?_)
  clear hK K
  refine norm_ (a' := ?_) ?_ ?_
  rotate_left
  · show Act.put _ (some 21) _ = _
    simp only [Act.put, List.setIfInBounds_toArray, List.set_cons_zero, List.set_cons_succ, i64_w, i32_w]
    rfl
  refine one_ (i := 17) (N := some 22) #[true, true, true, true, true, true, true, true, true, true, true, true, true, true, true, true, true, true, false, false] rfl rfl (one_of HT_.out (by kernel_rfl)) (by decide) (fun K hK => ?_)
  refine goes_ Tryd.func23 (by kernel_rfl) rfl #[.slice A3 n c3, .slice A4 n c4] (by rfl) rfl rfl (by simp only [List.map_toArray, List.map_cons, List.map_nil]; rfl) ?_
  with_reducible refine (HB.out _ _ _ _ _ HS34.out HS4.out).mono ?_
  rintro e w5 ⟨rfl, hb5⟩
  refine ⟨_, rfl, ?_⟩
  have HB5 := Lib.hid (bthen HB4.out hb5)
  refine hK.out _ _ ⟨((hb5.cell (World.block_lt_of_cell? _ _ hHeld.1)).trans hHeld.1), ((hb5.cell (World.block_lt_of_cell? _ _ hHeld.2.1)).trans hHeld.2.1), ((hb5.cell (World.block_lt_of_cell? _ _ hHeld.2.2.1)).trans hHeld.2.2.1), ((hb5.cell (World.block_lt_of_cell? _ _ hHeld.2.2.2.1)).trans hHeld.2.2.2.1), ((hb5.cell (World.block_lt_of_cell? _ _ hHeld.2.2.2.2.1)).trans hHeld.2.2.2.2.1), ((hb5.cell (World.block_lt_of_cell? _ _ hHeld.2.2.2.2.2.1)).trans hHeld.2.2.2.2.2.1), ((hb5.cell (World.block_lt_of_cell? _ _ hHeld.2.2.2.2.2.2.1)).trans hHeld.2.2.2.2.2.2.1), ((hb5.cell (World.block_lt_of_cell? _ _ hHeld.2.2.2.2.2.2.2.1)).trans hHeld.2.2.2.2.2.2.2.1), ((hb5.cell (World.block_lt_of_cell? _ _ hHeld.2.2.2.2.2.2.2.2.1)).trans hHeld.2.2.2.2.2.2.2.2.1), ((hb5.cell (World.block_lt_of_cell? _ _ hHeld.2.2.2.2.2.2.2.2.2)).trans hHeld.2.2.2.2.2.2.2.2.2)⟩ (fun hHeld => ?_)
  clear hK K
  refine norm_ (a' := ?_) ?_ ?_
  rotate_left
  · show Act.put _ (some 22) _ = _
    simp only [Act.put, List.setIfInBounds_toArray, List.set_cons_zero, List.set_cons_succ, i64_w, i32_w]
    rfl
  refine pure_ (i := 18) (N := some 23) (v := ?_) (a' := ?_) #[true, true, true, true, true, true, true, true, true, true, true, true, true, true, true, true, true, true, true, false] rfl rfl (any_of HT_.out (by kernel_rfl)) (fun _ _ _ h => h) (Or.inl ⟨by rfl, ?_⟩) ?_ ?_
  rotate_left
  · intro w'
    go_simp
    with_reducible rfl
  rotate_left
  · simp only [Act.put, List.setIfInBounds_toArray, List.set_cons_zero, List.set_cons_succ, i64_w, i32_w]
    rfl
  refine pure_ (i := 19) (N := some 4) (v := ?_) (a' := ?_) #[true, true, true, true, true, true, true, true, true, true, true, true, true, true, true, true, true, true, true, true] rfl rfl (any_of HT_.out (by kernel_rfl)) (fun _ _ _ h => h) (Or.inl ⟨by rfl, ?_⟩) ?_ ?_
  rotate_left
  · intro w'
    go_simp
    with_reducible rfl
  rotate_left
  · simp only [Act.put, List.setIfInBounds_toArray, List.set_cons_zero, List.set_cons_succ, i64_w, i32_w]
    rfl
  refine done_ (done_of HT_.out (by kernel_rfl)) ?_
  go_wp2_with fail
  go_ret
  exact ⟨rfl, HB5.out⟩
end Go.Proofs.YtjjfdamlicoeeaaDoor.X
