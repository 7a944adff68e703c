/- Contracts of impl.VectorOf at a vector of 8 bits. -/
import Derived.Test.YtjjfdamlicoeeaaDoorVecC
set_option linter.unusedVariables false
set_option linter.unusedSimpArgs false
set_option maxRecDepth 100000
namespace Go.Proofs.YtjjfdamlicoeeaaDoor.X
open Go.RowKit Go.Deep Go.Proofs.YtjjfdamlicoeeaaDoorW.PrintLast
theorem vecF32no (A : Option Addr) (n c : Nat) (w : World) : Calls Tryd.prog 42 #[vecI8 A n c] w fun e w' => e = .returned (.tuple #[.slice none 0 0, .bool false]) ∧ Below w.heap.size w w' := by
  unfold vecI8
  go_enter Tryd.func42, Tryd.ntmps42
  go_wp2
  go_ret2
  exact ⟨rfl, balloc (Below.refl _ _) (Nat.le_refl _) _⟩
theorem vecBitsno (A : Option Addr) (n c : Nat) (w : World) : Calls Tryd.prog 44 #[vecI8 A n c] w fun e w' => e = .returned (.tuple #[.slice none 0 0, .int .u8 0, .bool false]) ∧ Below w.heap.size w w' := by
  unfold vecI8
  go_enter Tryd.func44, Tryd.ntmps44
  go_wp2
  exact bodyPost_ret (v := .tuple #[.slice none 0 0, .int .u8 0, .bool false]) (by simp [results, Tryd.results44, go_sem]) rfl ⟨rfl, balloc (Below.refl _ _) (Nat.le_refl _) _⟩
/-- A vector of 8 bits, as the thin package gives it. -/
def ivec3 (A : Option Addr) (n c : Nat) : Value := .agg #[.int .i64 3, .slice A n c, .slice none 0 0, .slice none 0 0, .int .i64 0]
theorem vectorOf3 (A : Option Addr) (c : Nat) (r : List UInt8) (w : World) (hs : SB w A c (3 :: 0 :: r)) (hl : r.length ≤ 1000000) :
    Calls Tryd.prog 20 #[.int .i64 9, .slice A (r.length + 2) c] w fun e w' => ∃ A' c', e = .returned (.tuple #[ivec3 A' r.length c', .bool true]) ∧ GS w' A' c' (i8v (b8i r)) ∧ Below w.heap.size w w' := by
  have HF := Lib.hid (fun wx (h : SB wx A c (3 :: 0 :: r)) => fromBin3 A c r wx h hl)
  obtain ⟨q, hq⟩ : ∃ q, q = r.length := ⟨_, rfl⟩
  rw [← hq] at HF hl ⊢
  have hlv : (i8v (b8i r)).length = q := by simp [i8v, b8i, hq]
  have HS := Lib.hid hs
  obtain ⟨L, hL⟩ : ∃ L, L = i8v (b8i r) := ⟨_, rfl⟩
  have H1 : Hid (∀ u ∈ L, u.oneCell' = true) := Lib.hid (by rw [hL]; exact i8v_one _)
  rw [← hL] at HF hlv ⊢
  have HL := Lib.hid hlv
  have h9 : wrap64 9 = 9 := by unfold wrap64; omega
  have h3 : wrap64 3 = 3 := by unfold wrap64; omega
  clear hs hq hL hlv
  go_enter Tryd.func20, Tryd.ntmps20
  go_wp2_with fail
  refine (HF.out _ (HS.out.alloc _)).mono ?_
  rintro e w4 ⟨A4, rfl, hs4, hb4⟩
  have HT := Lib.hid (fun wx => vecType A4 q q wx)
  have HI := Lib.hid (fun wx => vecInt8OK A4 q q wx)
  have HF32 := Lib.hid (fun wx => vecF32no A4 q q wx)
  have HPB := Lib.hid (fun wx => vecBitsno A4 q q wx)
  unfold vecI8 at HT HI HF32 HPB ⊢
  obtain ⟨hc4, hf4⟩ := bcell hb4
  have hz4 := hb4.size
  simp only [World.size_alloc] at hz4 hc4 hf4
  have R4 : w.heap.size < w4.heap.size := by omega
  have d0 := hc4 w.heap.size 0 (by omega)
  have d1 := hc4 w.heap.size 1 (by omega)
  have d2 := hc4 w.heap.size 2 (by omega)
  have d3 := hc4 w.heap.size 3 (by omega)
  have d4 := hc4 w.heap.size 4 (by omega)
  simp [go_sem] at d0 d1 d2 d3 d4
  have E4 := balloc ((balloc (Below.refl _ w) (Nat.le_refl _) _).trans (hb4.mono (by first | (simp; done) | (simp; omega)))) (by omega) (.cells #[.int .u8 3, .slice A4 q q, .slice none 0 0, .slice none 0 0, .int .u8 0] 74)
  have HS4 := Lib.hid (hs4.alloc (.cells #[.int .u8 3, .slice A4 q q, .slice none 0 0, .slice none 0 0, .int .u8 0] 74))
  have HE4 := Lib.hid E4
  clear hs4 hb4 HF HS E4
  go_wp2_with fail
  refine (HT.out _).mono ?_
  rintro e w5 ⟨rfl, hb5⟩
  obtain ⟨hc5, hf5⟩ := bcell hb5
  have hz5 := hb5.size
  simp only [World.size_alloc] at hz5 hc5 hf5
  have R5 : w.heap.size < w5.heap.size := by omega
  have R4' : w.heap.size < w4.heap.size + 1 := by omega
  have V5 : w4.heap.size < w5.heap.size := by omega
  have HE5 := Lib.hid (balloc (bstep HE4.out (by simp; omega) hb5) (by omega) (.cells #[.int .i64 3, .slice none 0 0, .slice none 0 0, .slice none 0 0, .int .i64 0] 42))
  have HS5 := Lib.hid ((HS4.out.keep hb5).alloc (.cells #[.int .i64 3, .slice none 0 0, .slice none 0 0, .slice none 0 0, .int .i64 0] 42))
  have v0 := hc5 w4.heap.size 0 (by omega)
  have v1 := hc5 w4.heap.size 1 (by omega)
  have v2 := hc5 w4.heap.size 2 (by omega)
  have v3 := hc5 w4.heap.size 3 (by omega)
  have v4 := hc5 w4.heap.size 4 (by omega)
  simp [go_sem] at v0 v1 v2 v3 v4
  clear hb5 HS4 HE4 HT
  go_wp2_with fail
  refine (HI.out _).mono ?_
  rintro e w6 ⟨rfl, hb6⟩
  obtain ⟨hc6, hf6⟩ := bcell hb6
  have hz6 := hb6.size
  simp only [World.size_alloc] at hz6 hc6 hf6
  have O6 : w5.heap.size < w6.heap.size := by omega
  have V6 : w4.heap.size < w6.heap.size := by omega
  have R6 : w.heap.size < w6.heap.size := by omega
  have HE6 := Lib.hid (bstep HE5.out (by simp; omega) hb6)
  have HS6 := Lib.hid (HS5.out.keep hb6)
  have o0 := hc6 w5.heap.size 0 (by omega)
  have o1 := hc6 w5.heap.size 1 (by omega)
  have o2 := hc6 w5.heap.size 2 (by omega)
  have o3 := hc6 w5.heap.size 3 (by omega)
  have o4 := hc6 w5.heap.size 4 (by omega)
  have p1 : w6.frozen? ⟨w5.heap.size, 1, none⟩ = false := by rw [hf6 _ _ (by omega)]; simp [go_sem]
  have v0' := hc6 w4.heap.size 0 (by omega)
  have v1' := hc6 w4.heap.size 1 (by omega)
  have v2' := hc6 w4.heap.size 2 (by omega)
  have v3' := hc6 w4.heap.size 3 (by omega)
  have v4' := hc6 w4.heap.size 4 (by omega)
  have r0' := hc6 w.heap.size 0 (by omega)
  have r1' := hc6 w.heap.size 1 (by omega)
  have r2' := hc6 w.heap.size 2 (by omega)
  have r3' := hc6 w.heap.size 3 (by omega)
  have r4' := hc6 w.heap.size 4 (by omega)
  simp [go_sem, V5, R5, R4, R4', hc5, d0, d1, d2, d3, d4, v0, v1, v2, v3, v4] at o0 o1 o2 o3 o4 v0' v1' v2' v3' v4' r0' r1' r2' r3' r4'
  clear hb6 HS5 HE5 HI
  go_wp2_with (first | (refine wp_appG (.tmp 40) (.tmp 41) 39 rfl rfl (.int .i8 0) 1 infoI8 rfl Tryd.underlying39 _ w6.heap.size (.slice none 0 0) [] A4 q L ?a0 ?a1 ?a2 ?a3 ?a4 ?a5 ?a6 ?a7 ?_) | fail)
  case a0 => rfl
  case a1 => rw [HL.out]; rfl
  case a2 => exact OG.nil _ _
  case a3 => have := HS6.out; exact this
  case a4 => exact Nat.le_refl _
  case a5 => exact H1.out
  case a6 => rw [HL.out]; simp; omega
  case a7 => rw [HL.out]; simp; omega
  intro v7 w7 hap
  have hb7 := hap.fresh
  obtain ⟨A7, c7, hv7, hg7, hn7⟩ := hap.own.sb
  rw [HL.out] at hv7
  subst hv7
  obtain ⟨hc7, hf7⟩ := bcell hb7
  have hz7 := hb7.size
  have O7 : w5.heap.size < w7.heap.size := by omega
  have V7 : w4.heap.size < w7.heap.size := by omega
  have R7 : w.heap.size < w7.heap.size := by omega
  have HE7 := Lib.hid (bstep HE6.out (by omega) hb7)
  have HN7 : Hid (∀ a, A7 = some a → w6.heap.size ≤ a.block) := Lib.hid fun a ha => (hn7 a ha).1
  have HS7 := Lib.hid hg7
  have v0'' := (hc7 _ 0 V6).trans v0'
  have v1'' := (hc7 _ 1 V6).trans v1'
  have v2'' := (hc7 _ 2 V6).trans v2'
  have v3'' := (hc7 _ 3 V6).trans v3'
  have v4'' := (hc7 _ 4 V6).trans v4'
  have o0'' := (hc7 _ 0 O6).trans o0
  have o1'' := (hc7 _ 1 O6).trans o1
  have o2'' := (hc7 _ 2 O6).trans o2
  have o3'' := (hc7 _ 3 O6).trans o3
  have o4'' := (hc7 _ 4 O6).trans o4
  have r0'' := (hc7 _ 0 R6).trans r0'
  have r1'' := (hc7 _ 1 R6).trans r1'
  have r2'' := (hc7 _ 2 R6).trans r2'
  have r3'' := (hc7 _ 3 R6).trans r3'
  have r4'' := (hc7 _ 4 R6).trans r4'
  have q1 := (hf7 _ 1 O6).trans p1
  clear hap hg7 hn7 hb7 HS6 HE6
  go_wp2_with fail
  refine (HF32.out _).mono ?_
  rintro e w8 ⟨rfl, hb8⟩
  obtain ⟨hc8, hf8⟩ := bcell hb8
  have hz8 := hb8.size
  simp only [World.size_setCell] at hz8 hc8 hf8
  have O8 : w5.heap.size < w8.heap.size := by omega
  have V8 : w4.heap.size < w8.heap.size := by omega
  have R8 : w.heap.size < w8.heap.size := by omega
  have hne1 : w4.heap.size ≠ w5.heap.size := by omega
  have hne2 : w.heap.size ≠ w5.heap.size := by omega
  have hEE : Below w.heap.size w (w7.setCell ⟨w5.heap.size, 1, none⟩ (.slice A7 q c7)) := HE7.out.setCell (by show w.heap.size ≤ w5.heap.size; omega) _
  have HE8 := Lib.hid (bstep hEE (by simp; omega) hb8)
  have hN : ∀ a, A7 = some a → a.block ≠ w5.heap.size := fun a ha => by have := HN7.out a ha; omega
  have HS8 := Lib.hid ((HS7.out.far hN _).keep hb8)
  have v08 := hc8 w4.heap.size 0 V7
  have v18 := hc8 w4.heap.size 1 V7
  have v28 := hc8 w4.heap.size 2 V7
  have v38 := hc8 w4.heap.size 3 V7
  have v48 := hc8 w4.heap.size 4 V7
  have o08 := hc8 w5.heap.size 0 O7
  have o18 := hc8 w5.heap.size 1 O7
  have o28 := hc8 w5.heap.size 2 O7
  have o38 := hc8 w5.heap.size 3 O7
  have o48 := hc8 w5.heap.size 4 O7
  have r08 := hc8 w.heap.size 0 R7
  have r18 := hc8 w.heap.size 1 R7
  have r28 := hc8 w.heap.size 2 R7
  have r38 := hc8 w.heap.size 3 R7
  have r48 := hc8 w.heap.size 4 R7
  simp [go_sem, hne1, hne2, v0'', v1'', v2'', v3'', v4'', o0'', o1'', o2'', o3'', o4'', r0'', r1'', r2'', r3'', r4''] at v08 v18 v28 v38 v48 o08 o18 o28 o38 o48 r08 r18 r28 r38 r48
  clear hb8 hEE HE7 HS7 HF32 hN
  go_wp2_with fail
  refine (HPB.out _).mono ?_
  rintro e w9 ⟨rfl, hb9⟩
  obtain ⟨hc9, hf9⟩ := bcell hb9
  have hz9 := hb9.size
  have O9 : w5.heap.size < w9.heap.size := by omega
  have R9 : w.heap.size < w9.heap.size := by omega
  have HE9 := Lib.hid (bstep HE8.out (by omega) hb9)
  have HS9 := Lib.hid (HS8.out.keep hb9)
  have o09 := (hc9 _ 0 O8).trans o08
  have o19 := (hc9 _ 1 O8).trans o18
  have o29 := (hc9 _ 2 O8).trans o28
  have o39 := (hc9 _ 3 O8).trans o38
  have o49 := (hc9 _ 4 O8).trans o48
  have r09 := (hc9 _ 0 R8).trans r08
  have r19 := (hc9 _ 1 R8).trans r18
  have r29 := (hc9 _ 2 R8).trans r28
  have r39 := (hc9 _ 3 R8).trans r38
  have r49 := (hc9 _ 4 R8).trans r48
  have HNN : Hid (∀ a, A7 = some a → a.block ≠ w.heap.size) := Lib.hid fun a ha => by have := HN7.out a ha; omega
  clear hb9 HE8 HS8 HPB
  go_wp2_with fail
  have hbb : w.heap.size ≤ w.heap.size := Nat.le_refl _
  exact bodyPost_ret (v := .tuple #[ivec3 A7 q c7, .bool true]) (by simp [results, Tryd.results20, go_sem, ivec3, r09, r19, r29, r39, r49, R9]) rfl ⟨A7, c7, rfl, ((((HS9.out.far HNN.out _).far HNN.out _).far HNN.out _).far HNN.out _).far HNN.out _, ((((HE9.out.setCell hbb _).setCell hbb _).setCell hbb _).setCell hbb _).setCell hbb _⟩
end Go.Proofs.YtjjfdamlicoeeaaDoor.X
