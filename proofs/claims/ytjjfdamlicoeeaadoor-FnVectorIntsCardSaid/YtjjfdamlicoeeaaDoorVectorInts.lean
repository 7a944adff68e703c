/- The law FnVectorInts. -/
import Derived.Test.YtjjfdamlicoeeaaDoorVecE
set_option linter.unusedVariables false
set_option linter.unusedSimpArgs false
set_option maxRecDepth 100000
namespace Go.Proofs.YtjjfdamlicoeeaaDoor.X
open Go.RowKit Go.Deep Go.Proofs.YtjjfdamlicoeeaaDoorW.PrintLast

theorem b8i_i8b (l : List Int) (h8 : ∀ x ∈ l, -128 ≤ x ∧ x ≤ 127) : b8i (i8b l) = l := by
  unfold b8i i8b
  rw [List.map_map]
  conv => rhs; rw [← List.map_id l]
  refine List.map_congr_left fun x hx => ?_
  have hb := h8 x hx
  have ht := ub_toNat x
  simp only [Function.comp, id, i8of]
  split <;> omega
theorem fnVectorInts_walk (A : Option Addr) (c : Nat) (l : List Int) (w : World) (hs : GS w A c (i8v l)) (h8 : ∀ x ∈ l, -128 ≤ x ∧ x ≤ 127) (hl : l.length ≤ 140737488351232) :
    Calls Tryd.prog 8 #[.slice A l.length c] w fun e w' => e = .returned (.bool true) ∧ Below w.heap.size w w' := by
  by_cases h500 : 500 < l.length
  · obtain ⟨q, hq⟩ : ∃ q, q = l.length := ⟨_, rfl⟩
    rw [← hq] at h500 hl ⊢
    have d1 : decide ((500 : Int) < (q : Int)) = true := by simp; omega
    clear hq hs h8
    go_enter Tryd.func8, Tryd.ntmps8
    go_wp2
    all_goals go_ret
    all_goals exact ⟨rfl, Below.refl _ _⟩
  have hV := fun wx (h : GS wx A c (i8v l)) => vectorInt8 A c l wx h h8 (by omega)
  have hO := fun A1 c1 wx (h : SB wx A1 c1 (3 :: 0 :: i8b l)) => vectorOf3 A1 c1 (i8b l) wx h (by rw [i8b_len]; omega)
  rw [b8i_i8b l h8, i8b_len] at hO
  have HBy := Lib.hid (fun A1 c1 wx (h : GS wx A1 c1 (i8v l)) => vBytes3 A1 c1 l wx h h8 (by omega))
  have HB := Lib.hid (fun A1 A2 c1 c2 wx g1 g2 => vecBytesEq A1 A2 c1 c2 (3 :: 0 :: i8b l) wx g1 g2)
  have HSm := Lib.hid (fun A1 A2 c1 c2 wx g1 g2 => vecSame3 A1 A2 c1 c2 l wx g1 g2 h8 (by omega))
  have HV := Lib.hid hV
  have HO := Lib.hid hO
  clear hV hO
  have e2 : (3 :: 0 :: i8b l).length = l.length + 2 := by simp [i8b_len]
  rw [e2] at HB HBy
  obtain ⟨q, hq⟩ : ∃ q, q = l.length := ⟨_, rfl⟩
  rw [← hq] at HV HO HBy HB HSm h500 ⊢
  have d1 : decide ((500 : Int) < (q : Int)) = false := by simp; omega
  have d2 : decide ((2147483647 : Int) < (q : Int)) = false := by simp; omega
  have hle := hs.le
  clear hq e2 hl
  unfold ivec3 at HO HBy HSm
  go_enter Tryd.func8, Tryd.ntmps8
  go_wp2_with fail
  refine (HV.out _ (hs.alloc _)).mono ?_
  rintro e w2 ⟨A1, c1, rfl, hs2, hb2⟩
  have HS02 := Lib.hid ((hs.alloc (.cells #[.int .i64 3, .slice A q c, .slice none 0 0, .slice none 0 0, .int .i64 0] 42)).keep hb2)
  obtain ⟨hc2, hf2⟩ := bcell hb2
  have hz2 := hb2.size
  simp only [World.size_alloc] at hz2 hc2 hf2
  have d0 := hc2 w.heap.size 0 (by omega)
  have d1 := hc2 w.heap.size 1 (by omega)
  have d2 := hc2 w.heap.size 2 (by omega)
  have d3 := hc2 w.heap.size 3 (by omega)
  have d4 := hc2 w.heap.size 4 (by omega)
  simp [go_sem] at d0 d1 d2 d3 d4
  have HE2 := Lib.hid ((balloc (Below.refl _ w) (Nat.le_refl _) _).trans (hb2.mono (by first | (simp; done) | (simp; omega))))
  have HS2 := Lib.hid hs2
  clear hb2 hs2 HV hs
  go_wp2_with fail
  refine (HO.out _ _ _ HS2.out).mono ?_
  rintro e w3 ⟨A3, c3, rfl, hs3, hb3⟩
  have HW3 := Lib.hid (balloc (bstep HE2.out (by omega) hb3) (by have := hb3.size; omega) (.cells #[.int .i64 3, .slice A3 q c3, .slice none 0 0, .slice none 0 0, .int .i64 0] 42))
  have HS0 := Lib.hid ((HS02.out.keep hb3).alloc (.cells #[.int .i64 3, .slice A3 q c3, .slice none 0 0, .slice none 0 0, .int .i64 0] 42))
  have HS1 := Lib.hid ((HS2.out.keep hb3).alloc (.cells #[.int .i64 3, .slice A3 q c3, .slice none 0 0, .slice none 0 0, .int .i64 0] 42))
  have HS3 := Lib.hid (hs3.alloc (.cells #[.int .i64 3, .slice A3 q c3, .slice none 0 0, .slice none 0 0, .int .i64 0] 42))
  obtain ⟨hc3, hf3⟩ := bcell hb3
  have hz3 := hb3.size
  have V2 : w.heap.size < w2.heap.size := by omega
  have V3 : w.heap.size < w3.heap.size := by omega
  have k0 := (hc3 _ 0 V2).trans d0
  have k1 := (hc3 _ 1 V2).trans d1
  have k2 := (hc3 _ 2 V2).trans d2
  have k3 := (hc3 _ 3 V2).trans d3
  have k4 := (hc3 _ 4 V2).trans d4
  clear hb3 hs3 HO HS02 HS2 HE2
  go_wp2_with fail
  refine (HBy.out _ _ _ HS0.out).mono ?_
  rintro e w4 ⟨A4, c4, rfl, hs4, hb4⟩
  have HS14 := Lib.hid (HS1.out.keep hb4)
  have HS04 := Lib.hid (HS0.out.keep hb4)
  have HS34 := Lib.hid (HS3.out.keep hb4)
  have HS4 := Lib.hid hs4
  have HB4 := Lib.hid (bstep HW3.out (by simp; omega) hb4)
  obtain ⟨hc4, hf4⟩ := bcell hb4
  have hz4 := hb4.size
  simp only [World.size_alloc] at hz4 hc4 hf4
  have n0 := hc4 w3.heap.size 0 (by omega)
  have n1 := hc4 w3.heap.size 1 (by omega)
  have n2 := hc4 w3.heap.size 2 (by omega)
  have n3 := hc4 w3.heap.size 3 (by omega)
  have n4 := hc4 w3.heap.size 4 (by omega)
  have m0 := hc4 w.heap.size 0 (by omega)
  have m1 := hc4 w.heap.size 1 (by omega)
  have m2 := hc4 w.heap.size 2 (by omega)
  have m3 := hc4 w.heap.size 3 (by omega)
  have m4 := hc4 w.heap.size 4 (by omega)
  simp [go_sem, V3, k0, k1, k2, k3, k4] at n0 n1 n2 n3 n4 m0 m1 m2 m3 m4
  have U4 : w3.heap.size < w4.heap.size := by omega
  have V4 : w.heap.size < w4.heap.size := by omega
  clear hb4 hs4 HBy HS0 HS1 HS3 HW3
  go_wp2_with fail
  refine (HB.out _ _ _ _ _ HS14.out HS4.out).mono ?_
  rintro e w5 ⟨rfl, hb5⟩
  have HS05 := Lib.hid (HS04.out.keep hb5)
  have HS35 := Lib.hid (HS34.out.keep hb5)
  have HB5 := Lib.hid (bstep HB4.out (by omega) hb5)
  obtain ⟨hc5, hf5⟩ := bcell hb5
  have hz5 := hb5.size
  have U5 : w3.heap.size < w5.heap.size := by omega
  have V5 : w.heap.size < w5.heap.size := by omega
  clear hb5 HB HB4 HS04 HS34
  go_wp2_with fail
  refine (HSm.out _ _ _ _ _ HS05.out HS35.out).mono ?_
  rintro e w6 ⟨rfl, hb6⟩
  have HB6 := Lib.hid (bstep HB5.out (by omega) hb6)
  obtain ⟨hc6, hf6⟩ := bcell hb6
  clear hb6 HB5 HSm
  go_wp2_with fail
  trace_state
  go_ret
  exact ⟨rfl, HB6.out⟩
end Go.Proofs.YtjjfdamlicoeeaaDoor.X
