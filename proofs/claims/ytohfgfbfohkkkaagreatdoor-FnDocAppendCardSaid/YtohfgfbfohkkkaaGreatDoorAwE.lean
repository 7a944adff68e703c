/- impl.Read of a number of 32 bits and one byte more. -/
import Derived.Test.YtohfgfbfohkkkaaGreatDoorWords
import Derived.Test.YtohfgfbfohkkkaaGreatDoorOwn
import Derived.Test.YtohfgfbfohkkkaaGreatDoorReadI32
import Derived.Test.YtohfgfbfohkkkaaGreatDoorFresh
import Derived.Test.YtohfgfbfohkkkaaGreatDoorWLast
import Derived.Test.YtohfgfbfohkkkaaGreatDoorWTab
import Derived.Outline
set_option linter.unusedVariables false
set_option linter.unusedSimpArgs false
set_option maxRecDepth 100000
namespace Go.Proofs.YtohfgfbfohkkkaaGreatDoor.X
open Go.RowKit Go.Proofs.YtohfgfbfohkkkaaGreatDoorW.PrintLast
namespace Aw
def R22.T59 : Bool × List (List Nat × List Nat) := (true, [([], []), ([], []), ([1], [1]), ([], []), ([0, 2, 0], [0]), ([2, 4, 0, 1, 2, 4], [1, 2]), ([3, 5, 0, 1, 2, 3, 4, 5], [3])])
def R22.B59 : List Nat := [0, 0, 2, 0, 7, 23, 63]
theorem R22.tab59 : rtab .any (opsOf Tryz.f22 59) = R22.T59 := by kernel_rfl
theorem R22.bits59 : waitsOk R22.T59.2 R22.B59 = true := by kernel_rfl
theorem bset {B g o : Nat} {w w1 : World} (h : Below B w w1) (hg : B ≤ g) (v : Value) : Below B w (w1.setCell ⟨g, o, none⟩ v) := h.setCell hg v
theorem readInt7 (A : Option Addr) (c : Nat) (w : World) (hs : SB w A c [7, 0, 0, 0, 9]) :
    Calls Tryz.prog 64 #[.slice A 5 c] w fun e w' => ∃ A1 c1, e = .returned (.tuple #[.int .i32 7, .slice A1 1 c1, .bool true]) ∧ SB w' A1 c1 [9] ∧ Below w.heap.size w w' := by
  have HI : Hid (Calls Tryz.prog 103 #[.slice A 5 c] w fun e w' => ∃ A1, e = .returned (.tuple #[.int .i32 7, .slice A1 1 (c - 4), .bool true]) ∧ SB w' A1 (c - 4) [9] ∧ Below w.heap.size w w') := Lib.hid (by
    have h := readI32 A c 7 0 0 0 [9] w hs
    rw [show wrap32 (leI [7, 0, 0, 0]) = 7 from by decide +kernel] at h
    exact h)
  clear hs
  go_enter Tryz.func64, Tryz.ntmps64
  go_wp2_with fail
  refine HI.out.mono ?_
  rintro e w1 ⟨A1, rfl, h1, h2⟩
  obtain ⟨q, hq⟩ : ∃ q, q = c - 4 := ⟨_, rfl⟩
  rw [← hq] at h1 ⊢
  have H1 := Lib.hid h1
  clear h1 hq HI
  go_wp2_with fail
  go_ret3
  exact ⟨A1, q, rfl, H1.out, h2⟩
set_option maxHeartbeats 1600000 in
theorem read7 (A : Option Addr) (c : Nat) (W : World) (hs : SB W A c [7, 0, 0, 0, 9]) :
    Calls Tryz.prog 22 #[.int .i64 16, .slice A 5 c] W fun e w' => ∃ A1 c1, e = .returned (.tuple #[.agg #[.int .i64 16, .string ⟨#[]⟩, .string ⟨#[]⟩, .int .i64 7, .int .u64 0, .int .u64 0, .slice none 0 0, .slice none 0 0], .slice A1 1 c1, .bool true]) ∧ Below W.heap.size W w' := by
  have HR := Lib.hid (fun wx (hx : Below W.heap.size W wx) => readInt7 A c wx (hs.keep hx))
  have HO : Hid (∀ (A1 : Option Addr) (c1 : Nat) wx, SB wx A1 c1 [9] → Calls Tryz.prog 25 #[.slice A1 1 c1] wx fun e w' => ∃ A3 c3, e = .returned (.slice A3 1 c3) ∧ SB w' A3 c3 [9] ∧ Below wx.heap.size wx w') := Lib.hid fun A1 c1 wx h => (fresh_of (implOwn A1 c1 [9] wx h (by simp))).mono fun e w' ⟨A3, c3, h1, h2, h3, h4⟩ => ⟨A3, c3, h1, h2, h4⟩
  clear hs
  have hB0 : Below W.heap.size W (W.alloc (.cells #[.int .i64 16, .string ⟨#[]⟩, .string ⟨#[]⟩, .int .i64 0, .int .u64 0, .int .u64 0, .slice none 0 0, .slice none 0 0] 45)) := balloc (Below.refl _ _) (Nat.le_refl _) _
  have hx0 : (W.alloc (.cells #[.int .i64 16, .string ⟨#[]⟩, .string ⟨#[]⟩, .int .i64 0, .int .u64 0, .int .u64 0, .slice none 0 0, .slice none 0 0] 45)).heap[W.heap.size]? = some (.cells #[.int .i64 16, .string ⟨#[]⟩, .string ⟨#[]⟩, .int .i64 0, .int .u64 0, .int .u64 0, .slice none 0 0, .slice none 0 0] 45 (0, 0)) := heap_alloc_new W _
  have HB0 := Lib.hid hB0
  have HX0 := Lib.hid hx0
  clear hB0 hx0
  go_enter Tryz.func22, Tryz.ntmps22
  go_wp2_with fail
  refine (HR.out _ HB0.out).mono ?_
  rintro e w1 ⟨A1, c1, rfl, hs1, hb⟩
  have hx1 := (hb.block W.heap.size (by simp)).trans HX0.out
  have hb1 : Below W.heap.size W w1 := HB0.out.trans (hb.mono (by simp))
  have hz1 : W.heap.size < w1.heap.size := by have := hb.size; simp at this; omega
  have q3 : w1.cell? ⟨W.heap.size, 3, none⟩ = some (.int .i64 0) := by simp only [World.cell?, hx1]; rfl
  have f3 : w1.frozen? ⟨W.heap.size, 3, none⟩ = false := by simp only [World.frozen?, hx1]; rfl
  have hx2 : (w1.setCell ⟨W.heap.size, 3, none⟩ (.int .i64 7)).heap[W.heap.size]? = some (.cells #[.int .i64 16, .string ⟨#[]⟩, .string ⟨#[]⟩, .int .i64 7, .int .u64 0, .int .u64 0, .slice none 0 0, .slice none 0 0] 45 (0, 0)) := by simpa using heap_setCell_same w1 W.heap.size 3 _ _ (.int .i64 7) hx1
  have HX2 := Lib.hid hx2
  have HB2 : Hid (Below W.heap.size W (w1.setCell ⟨W.heap.size, 3, none⟩ (.int .i64 7))) := Lib.hid (hb1.setCell (Nat.le_refl _) _)
  have hne : ∀ a, A1 = some a → a.block ≠ W.heap.size := by
    intro a ha e
    obtain ⟨g, off, rfl, hc⟩ := hs1.cells (by simp)
    injection ha with ha
    subst ha
    have h := hc 0 (by simp)
    have e' : g = W.heap.size := e
    rw [e'] at h
    simp only [World.cell?, hx1] at h
    match off, h with
    | 0, h => simp at h
    | 1, h => simp at h
    | 2, h => simp at h
    | 3, h => simp at h
    | 4, h => simp at h
    | 5, h => simp at h
    | 6, h => simp at h
    | 7, h => simp at h
    | n + 8, h => simp at h
  have HS1 : Hid (SB (w1.setCell ⟨W.heap.size, 3, none⟩ (.int .i64 7)) A1 c1 [9]) := Lib.hid (hs1.far hne _)
  have HZ : Hid (W.heap.size < (w1.setCell ⟨W.heap.size, 3, none⟩ (.int .i64 7)).heap.size) := Lib.hid (by simpa using hz1)
  clear hne hx1 hb hs1 hb1 hx2 HR HB0 HX0
  go_wp2_with fail
  generalize hw2 : w1.setCell ⟨W.heap.size, 3, none⟩ (.int .i64 7) = w2 at HX2 HB2 HS1 HZ ⊢
  clear hw2 q3 f3 hz1
  have p0 : w2.cell? ⟨W.heap.size, 0, none⟩ = some (.int .i64 16) := by simp only [World.cell?, HX2.out]; rfl
  have p1 : w2.cell? ⟨W.heap.size, 1, none⟩ = some (.string ⟨#[]⟩) := by simp only [World.cell?, HX2.out]; rfl
  have p2 : w2.cell? ⟨W.heap.size, 2, none⟩ = some (.string ⟨#[]⟩) := by simp only [World.cell?, HX2.out]; rfl
  have p3 : w2.cell? ⟨W.heap.size, 3, none⟩ = some (.int .i64 7) := by simp only [World.cell?, HX2.out]; rfl
  have p4 : w2.cell? ⟨W.heap.size, 4, none⟩ = some (.int .u64 0) := by simp only [World.cell?, HX2.out]; rfl
  have p5 : w2.cell? ⟨W.heap.size, 5, none⟩ = some (.int .u64 0) := by simp only [World.cell?, HX2.out]; rfl
  have p6 : w2.cell? ⟨W.heap.size, 6, none⟩ = some (.slice none 0 0) := by simp only [World.cell?, HX2.out]; rfl
  have p7 : w2.cell? ⟨W.heap.size, 7, none⟩ = some (.slice none 0 0) := by simp only [World.cell?, HX2.out]; rfl
  have z0 : w2.frozen? ⟨W.heap.size, 0, none⟩ = false := by simp only [World.frozen?, HX2.out]; rfl
  have z1 : w2.frozen? ⟨W.heap.size, 1, none⟩ = false := by simp only [World.frozen?, HX2.out]; rfl
  have z2 : w2.frozen? ⟨W.heap.size, 2, none⟩ = false := by simp only [World.frozen?, HX2.out]; rfl
  have z3 : w2.frozen? ⟨W.heap.size, 3, none⟩ = false := by simp only [World.frozen?, HX2.out]; rfl
  have z4 : w2.frozen? ⟨W.heap.size, 4, none⟩ = false := by simp only [World.frozen?, HX2.out]; rfl
  have z5 : w2.frozen? ⟨W.heap.size, 5, none⟩ = false := by simp only [World.frozen?, HX2.out]; rfl
  have z6 : w2.frozen? ⟨W.heap.size, 6, none⟩ = false := by simp only [World.frozen?, HX2.out]; rfl
  have z7 : w2.frozen? ⟨W.heap.size, 7, none⟩ = false := by simp only [World.frozen?, HX2.out]; rfl
  have hz2 := HZ.out
  refine start_ (n := 7) (S := fun w' => w'.cell? ⟨W.heap.size, 0, none⟩ = some (.int .i64 16) ∧ w'.cell? ⟨W.heap.size, 1, none⟩ = some (.string ⟨#[]⟩) ∧ w'.cell? ⟨W.heap.size, 2, none⟩ = some (.string ⟨#[]⟩) ∧ w'.cell? ⟨W.heap.size, 3, none⟩ = some (.int .i64 7) ∧ w'.cell? ⟨W.heap.size, 4, none⟩ = some (.int .u64 0) ∧ w'.cell? ⟨W.heap.size, 5, none⟩ = some (.int .u64 0) ∧ w'.cell? ⟨W.heap.size, 6, none⟩ = some (.slice none 0 0) ∧ w'.cell? ⟨W.heap.size, 7, none⟩ = some (.slice none 0 0) ∧ w'.frozen? ⟨W.heap.size, 0, none⟩ = false ∧ w'.frozen? ⟨W.heap.size, 1, none⟩ = false ∧ w'.frozen? ⟨W.heap.size, 2, none⟩ = false ∧ w'.frozen? ⟨W.heap.size, 3, none⟩ = false ∧ w'.frozen? ⟨W.heap.size, 4, none⟩ = false ∧ w'.frozen? ⟨W.heap.size, 5, none⟩ = false ∧ w'.frozen? ⟨W.heap.size, 6, none⟩ = false ∧ w'.frozen? ⟨W.heap.size, 7, none⟩ = false) (ds := [4]) #[false, false, false, false, false, false, false] (by kernel_rfl) rfl rfl ⟨(by exact p0), (by exact p1), (by exact p2), (by exact p3), (by exact p4), (by exact p5), (by exact p6), (by exact p7), (by exact z0), (by exact z1), (by exact z2), (by exact z3), (by exact z4), (by exact z5), (by exact z6), (by exact z7)⟩ (fun hHeld => ?_)
  refine with_tabW R22.tab59 R22.bits59 (fun HT_ HW_ => ?_)
  refine pure_ (i := 1) (N := some 226) (v := ?_) (a' := ?_) #[false, true, false, false, false, false, false] rfl rfl (any_of HT_.out (by kernel_rfl)) (fun _ _ _ h => h) (Or.inl ⟨by rfl, ?_⟩) ?_ ?_
  rotate_left
  · intro w'
    go_simp
    with_reducible rfl
  rotate_left
  · simp only [Act.put, List.setIfInBounds_toArray, List.set_cons_zero, List.set_cons_succ, i64_w, i32_w]
    rfl
  refine pure_ (i := 3) (N := some 228) (v := ?_) (a' := ?_) #[false, true, false, true, false, false, false] rfl rfl (any_of HT_.out (by kernel_rfl)) (fun _ _ _ h => h) (Or.inl ⟨by rfl, ?_⟩) ?_ ?_
  rotate_left
  · intro w'
    go_simp
    with_reducible rfl
  rotate_left
  · simp only [Act.put, List.setIfInBounds_toArray, List.set_cons_zero, List.set_cons_succ, i64_w, i32_w]
    rfl
  refine take_ (i := 0) (N := some 225) (v := ?_) (a' := ?_) #[true, true, false, true, false, false, false] rfl rfl (take_ofW HT_.out HW_.out (by kernel_rfl)) (fun _ _ _ h => h) (Or.inl ⟨by rfl, ?_⟩) hHeld ?_ ?_
  rotate_left
  · rintro w' ⟨s0, s1, s2, s3, s4, s5, s6, s7, s8, s9, s10, s11, s12, s13, s14, s15⟩
    go_simp
    with_reducible rfl
  rotate_left
  · simp only [Act.put, List.setIfInBounds_toArray, List.set_cons_zero, List.set_cons_succ, i64_w, i32_w]
    rfl
  refine one_ (i := 2) (N := some 227) #[true, true, true, true, false, false, false] rfl rfl (one_of HT_.out (by kernel_rfl)) (by decide) (fun K hK => ?_)
  refine goes_ Tryz.func25 (by kernel_rfl) rfl #[.slice A1 1 c1] (by rfl) rfl rfl (by simp only [List.map_toArray, List.map_cons, List.map_nil]; rfl) ?_
  with_reducible refine (HO.out A1 c1 _ HS1.out.drew).mono ?_
  rintro e w3 ⟨A3, c3, rfl, hs3, hb3⟩
  refine ⟨_, rfl, ?_⟩
  have hx3 : w3.heap[W.heap.size]? = _ := (hb3.block W.heap.size (by exact HZ.out)).trans HX2.out
  have hB3 : Below W.heap.size W w3 := HB2.out.trans ((bleft hb3).mono (Nat.le_of_lt HZ.out))
  have HB3 := Lib.hid hB3
  have hlt3 : W.heap.size < w3.heap.size := Nat.lt_of_lt_of_le HZ.out (by exact hb3.size)
  clear hB3
  have r0 : w3.cell? ⟨W.heap.size, 0, none⟩ = some (.int .i64 16) := by simp only [World.cell?, hx3]; rfl
  have r1 : w3.cell? ⟨W.heap.size, 1, none⟩ = some (.string ⟨#[]⟩) := by simp only [World.cell?, hx3]; rfl
  have r2 : w3.cell? ⟨W.heap.size, 2, none⟩ = some (.string ⟨#[]⟩) := by simp only [World.cell?, hx3]; rfl
  have r3 : w3.cell? ⟨W.heap.size, 3, none⟩ = some (.int .i64 7) := by simp only [World.cell?, hx3]; rfl
  have r4 : w3.cell? ⟨W.heap.size, 4, none⟩ = some (.int .u64 0) := by simp only [World.cell?, hx3]; rfl
  have r5 : w3.cell? ⟨W.heap.size, 5, none⟩ = some (.int .u64 0) := by simp only [World.cell?, hx3]; rfl
  have r6 : w3.cell? ⟨W.heap.size, 6, none⟩ = some (.slice none 0 0) := by simp only [World.cell?, hx3]; rfl
  have r7 : w3.cell? ⟨W.heap.size, 7, none⟩ = some (.slice none 0 0) := by simp only [World.cell?, hx3]; rfl
  have g0 : w3.frozen? ⟨W.heap.size, 0, none⟩ = false := by simp only [World.frozen?, hx3]; rfl
  have g1 : w3.frozen? ⟨W.heap.size, 1, none⟩ = false := by simp only [World.frozen?, hx3]; rfl
  have g2 : w3.frozen? ⟨W.heap.size, 2, none⟩ = false := by simp only [World.frozen?, hx3]; rfl
  have g3 : w3.frozen? ⟨W.heap.size, 3, none⟩ = false := by simp only [World.frozen?, hx3]; rfl
  have g4 : w3.frozen? ⟨W.heap.size, 4, none⟩ = false := by simp only [World.frozen?, hx3]; rfl
  have g5 : w3.frozen? ⟨W.heap.size, 5, none⟩ = false := by simp only [World.frozen?, hx3]; rfl
  have g6 : w3.frozen? ⟨W.heap.size, 6, none⟩ = false := by simp only [World.frozen?, hx3]; rfl
  have g7 : w3.frozen? ⟨W.heap.size, 7, none⟩ = false := by simp only [World.frozen?, hx3]; rfl
  refine hK.out _ _ ⟨r0, r1, r2, r3, r4, r5, r6, r7, g0, g1, g2, g3, g4, g5, g6, g7⟩ (fun hHeld => ?_)
  clear hK K
  refine norm_ (a' := ?_) ?_ ?_
  rotate_left
  · show Act.put _ (some 227) _ = _
    simp only [Act.put, List.setIfInBounds_toArray, List.set_cons_zero, List.set_cons_succ, i64_w, i32_w]
    rfl
  refine last_ (i := 4) (N := none) #[true, true, true, true, true, false, false] rfl rfl (one_of HT_.out (by kernel_rfl)) (by decide) (fun K hK => ?_)
  refine skip_ (w1 := ?_) (by rfl) rfl ?_ ?_
  rotate_left
  · go_simp
    rfl
  refine hK.out _ _ ?_
  clear hK K
  refine pure_ (i := 5) (N := some 5) (v := ?_) (a' := ?_) #[true, true, true, true, true, true, false] rfl rfl (any_of HT_.out (by kernel_rfl)) (fun _ _ _ h => h) (Or.inl ⟨by rfl, ?_⟩) ?_ ?_
  rotate_left
  · intro w'
    go_simp
    with_reducible rfl
  rotate_left
  · simp only [Act.put, List.setIfInBounds_toArray, List.set_cons_zero, List.set_cons_succ, i64_w, i32_w]
    rfl
  refine pure_ (i := 6) (N := some 6) (v := ?_) (a' := ?_) #[true, true, true, true, true, true, true] rfl rfl (any_of HT_.out (by kernel_rfl)) (fun _ _ _ h => h) (Or.inl ⟨by rfl, ?_⟩) ?_ ?_
  rotate_left
  · intro w'
    go_simp
    with_reducible rfl
  rotate_left
  · simp only [Act.put, List.setIfInBounds_toArray, List.set_cons_zero, List.set_cons_succ, i64_w, i32_w]
    rfl
  refine done_ (done_of HT_.out (by kernel_rfl)) ?_
  have t0 := hHeld.1
  have t1 := hHeld.2.1
  have t2 := hHeld.2.2.1
  have t3 := hHeld.2.2.2.1
  have t4 := hHeld.2.2.2.2.1
  have t5 := hHeld.2.2.2.2.2.1
  have t6 := hHeld.2.2.2.2.2.2.1
  have t7 := hHeld.2.2.2.2.2.2.2.1
  clear hHeld
  go_wp2_with fail
  exact bodyPost_ret (v := .tuple #[.agg #[.int .i64 16, .string ⟨#[]⟩, .string ⟨#[]⟩, .int .i64 7, .int .u64 0, .int .u64 0, .slice none 0 0, .slice none 0 0], .slice A3 1 c3, .bool true]) (by simp [results, Tryz.results22, go_sem, t0, t1, t2, t3, t4, t5, t6, t7]) rfl ⟨A3, c3, rfl, bset (bset (bset (bset (bset (bset (bset (bset HB3.out (Nat.le_refl _) _) (Nat.le_refl _) _) (Nat.le_refl _) _) (Nat.le_refl _) _) (Nat.le_refl _) _) (Nat.le_refl _) _) (Nat.le_refl _) _) (Nat.le_refl _) _⟩
end Aw
end Go.Proofs.YtohfgfbfohkkkaaGreatDoor.X
