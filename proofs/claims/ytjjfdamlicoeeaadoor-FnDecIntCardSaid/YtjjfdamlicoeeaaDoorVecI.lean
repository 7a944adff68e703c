/- Contracts of impl.VectorOf at vectors of bits, and where nothing is read. -/
import Derived.Test.YtjjfdamlicoeeaaDoorVecH
set_option linter.unusedVariables false
set_option linter.unusedSimpArgs false
set_option maxRecDepth 100000
namespace Go.Proofs.YtjjfdamlicoeeaaDoor.X
open Go.RowKit Go.Deep Go.Proofs.YtjjfdamlicoeeaaDoorW.PrintLast
/-- What the thin package gives where nothing is read. -/
def ivec0 : Value := .agg #[.int .i64 0, .slice none 0 0, .slice none 0 0, .slice none 0 0, .int .i64 0]
/-- Nothing is read: whatever the package's function refuses. -/
theorem vectorOf_no (A : Option Addr) (n c : Nat) (k : Int) (w : World) (hk : 0 ≤ k ∧ k ≤ 255) (hF : ∀ wx, Below w.heap.size w wx → Calls Tryd.prog 39 #[.agg #[.int .u8 k, .slice A n c]] wx fun e w' => ∃ T x, e = .returned (.tuple #[vec0, .iface T x]) ∧ Below wx.heap.size wx w') :
    Calls Tryd.prog 20 #[.int .i64 k, .slice A n c] w fun e w' => e = .returned (.tuple #[ivec0, .bool false]) ∧ Below w.heap.size w w' := by
  have HF := Lib.hid (hF _ (balloc (Below.refl _ w) (Nat.le_refl _) (.cells #[.int .i64 0, .slice none 0 0, .slice none 0 0, .slice none 0 0, .int .i64 0] 42)))
  have hw : IntKind.u8.wrap k = k := IntWalk.u8_in _ (by omega)
  unfold vec0 at HF
  clear hF
  go_enter Tryd.func20, Tryd.ntmps20
  go_wp2_with fail
  refine HF.out.mono ?_
  rintro e w4 ⟨T4, x4, rfl, hb4⟩
  obtain ⟨hc4, hf4⟩ := bcell hb4
  have hz4 := hb4.size
  simp only [World.size_alloc] at hz4 hc4 hf4
  have R4 : w.heap.size < w4.heap.size := by omega
  have R5 : w.heap.size < w4.heap.size + 1 := by omega
  have d0 := hc4 w.heap.size 0 (by omega)
  have d1 := hc4 w.heap.size 1 (by omega)
  have d2 := hc4 w.heap.size 2 (by omega)
  have d3 := hc4 w.heap.size 3 (by omega)
  have d4 := hc4 w.heap.size 4 (by omega)
  simp [go_sem] at d0 d1 d2 d3 d4
  have HE := Lib.hid ((balloc (Below.refl _ w) (Nat.le_refl _) _).trans (hb4.mono (by simp)))
  clear hb4
  go_wp2_with fail
  have hbb : w.heap.size ≤ w.heap.size := Nat.le_refl _
  exact bodyPost_ret (v := .tuple #[ivec0, .bool false]) (by simp [results, Tryd.results20, go_sem, ivec0, d0, d1, d2, d3, d4, R4, R5]) rfl ⟨rfl, balloc (((((HE.out.setCell hbb _).setCell hbb _).setCell hbb _).setCell hbb _).setCell hbb _) (by simp; omega) _⟩
theorem vectorOf16 (A : Option Addr) (c : Nat) (p : UInt8) (r : List UInt8) (w : World) (hs : SB w A c (16 :: p :: r)) (hp : p.toNat ≤ 7) (hp2 : p.toNat = 0 ∨ 0 < r.length) (hl : r.length ≤ 1000000) :
    Calls Tryd.prog 20 #[.int .i64 9, .slice A (r.length + 2) c] w fun e w' => ∃ A' c', e = .returned (.tuple #[ivec16 A' r.length c' p.toNat, .bool true]) ∧ SB w' A' c' r ∧ Below w.heap.size w w' := by
  have HF := Lib.hid (fun wx (h : SB wx A c (16 :: p :: r)) => fromBin16 A c p r wx h hp hp2 hl)
  have HO := Lib.hid (fun A' c' wx (h : SB wx A' c' r) => fresh_of (implOwn A' c' r wx h (by omega)))
  obtain ⟨q, hq⟩ : ∃ q, q = r.length := ⟨_, rfl⟩
  obtain ⟨y, hy⟩ : ∃ y : Int, y = (p.toNat : Int) := ⟨_, rfl⟩
  rw [← hq, ← hy] at HF
  rw [← hq] at HO
  rw [← hq, ← hy]
  have hyb : 0 ≤ y ∧ y ≤ 7 := by omega
  have hw9 : IntKind.u8.wrap 9 = 9 := IntWalk.u8_in _ (by omega)
  have h9 : wrap64 16 = 16 := by unfold wrap64; omega
  have hwy : wrap64 y = y := by unfold wrap64; omega
  have HS := Lib.hid hs
  clear hs hq hy hp hp2 hl
  go_enter Tryd.func20, Tryd.ntmps20
  go_wp2_with fail
  refine (HF.out _ (HS.out.alloc _)).mono ?_
  rintro e w4 ⟨A4, rfl, hs4, hb4⟩
  have HT := Lib.hid (fun wx => bitType A4 q q y wx)
  have HI := Lib.hid (fun wx => bitInt8no A4 q q y wx)
  have HF32 := Lib.hid (fun wx => bitF32no A4 q q y wx)
  have HPB := Lib.hid (fun wx => bitBits A4 q q y wx)
  unfold vecBit at HT HI HF32 HPB ⊢
  obtain ⟨hc4, hf4⟩ := bcell hb4
  have hz4 := hb4.size
  simp only [World.size_alloc] at hz4 hc4 hf4
  have R4 : w.heap.size < w4.heap.size := by omega
  have R4' : w.heap.size < w4.heap.size + 1 := by omega
  have d0 := hc4 w.heap.size 0 (by omega)
  have d1 := hc4 w.heap.size 1 (by omega)
  have d2 := hc4 w.heap.size 2 (by omega)
  have d3 := hc4 w.heap.size 3 (by omega)
  have d4 := hc4 w.heap.size 4 (by omega)
  simp [go_sem] at d0 d1 d2 d3 d4
  have rf : ∀ o, w4.frozen? ⟨w.heap.size, o, none⟩ = false := fun o => by rw [hf4 _ _ (by omega)]; simp [go_sem]
  have HE4 := Lib.hid (balloc ((balloc (Below.refl _ w) (Nat.le_refl _) _).trans (hb4.mono (by first | (simp; done) | (simp; omega)))) (by omega) (.cells #[.int .u8 16, .slice none 0 0, .slice none 0 0, .slice A4 q q, .int .u8 y] 74))
  have HS4 := Lib.hid (hs4.alloc (.cells #[.int .u8 16, .slice none 0 0, .slice none 0 0, .slice A4 q q, .int .u8 y] 74))
  clear hs4 hb4 HF HS hc4 hf4
  go_wp2_with fail
  refine (HT.out _).mono ?_
  rintro e w5 ⟨rfl, hb5⟩
  obtain ⟨hc5, hf5⟩ := bcell hb5
  have hz5 := hb5.size
  simp only [World.size_alloc] at hz5 hc5 hf5
  have R5 : w.heap.size < w5.heap.size := by omega
  have V5 : w4.heap.size < w5.heap.size := by omega
  have v0 := hc5 w4.heap.size 0 (by omega)
  have v1 := hc5 w4.heap.size 1 (by omega)
  have v2 := hc5 w4.heap.size 2 (by omega)
  have v3 := hc5 w4.heap.size 3 (by omega)
  have v4 := hc5 w4.heap.size 4 (by omega)
  have r0 := hc5 w.heap.size 0 (by omega)
  have r1 := hc5 w.heap.size 1 (by omega)
  have r2 := hc5 w.heap.size 2 (by omega)
  have r3 := hc5 w.heap.size 3 (by omega)
  have r4 := hc5 w.heap.size 4 (by omega)
  simp [go_sem, R4, d0, d1, d2, d3, d4] at v0 v1 v2 v3 v4 r0 r1 r2 r3 r4
  have rf5 : ∀ o, w5.frozen? ⟨w.heap.size, o, none⟩ = false := fun o => by rw [hf5 _ _ (by omega)]; simpa [go_sem, R4] using rf o
  have HE5 := Lib.hid (balloc (bstep HE4.out (by simp; omega) hb5) (by omega) (.cells #[.int .i64 16, .slice none 0 0, .slice none 0 0, .slice none 0 0, .int .i64 0] 42))
  have HS5 := Lib.hid ((HS4.out.keep hb5).alloc (.cells #[.int .i64 16, .slice none 0 0, .slice none 0 0, .slice none 0 0, .int .i64 0] 42))
  clear hb5 HS4 HE4 HT hc5 hf5 d0 d1 d2 d3 d4 rf
  go_wp2_with fail
  refine (HI.out _).mono ?_
  rintro e w6 ⟨rfl, hb6⟩
  obtain ⟨hc6, hf6⟩ := bcell hb6
  have hz6 := hb6.size
  simp only [World.size_alloc] at hz6 hc6 hf6
  have R6 : w.heap.size < w6.heap.size := by omega
  have V6 : w4.heap.size < w6.heap.size := by omega
  have O6 : w5.heap.size < w6.heap.size := by omega
  have v0a := hc6 w4.heap.size 0 (by omega)
  have v1a := hc6 w4.heap.size 1 (by omega)
  have v2a := hc6 w4.heap.size 2 (by omega)
  have v3a := hc6 w4.heap.size 3 (by omega)
  have v4a := hc6 w4.heap.size 4 (by omega)
  have r0a := hc6 w.heap.size 0 (by omega)
  have r1a := hc6 w.heap.size 1 (by omega)
  have r2a := hc6 w.heap.size 2 (by omega)
  have r3a := hc6 w.heap.size 3 (by omega)
  have r4a := hc6 w.heap.size 4 (by omega)
  have o0a := hc6 w5.heap.size 0 (by omega)
  have o1a := hc6 w5.heap.size 1 (by omega)
  have o2a := hc6 w5.heap.size 2 (by omega)
  have o3a := hc6 w5.heap.size 3 (by omega)
  have o4a := hc6 w5.heap.size 4 (by omega)
  simp [go_sem, R5, V5, v0, v1, v2, v3, v4, r0, r1, r2, r3, r4] at v0a v1a v2a v3a v4a r0a r1a r2a r3a r4a o0a o1a o2a o3a o4a
  have rf6 : ∀ o, w6.frozen? ⟨w.heap.size, o, none⟩ = false := fun o => by rw [hf6 _ _ (by omega)]; simpa [go_sem, R5] using rf5 o
  have of6 : ∀ o, w6.frozen? ⟨w5.heap.size, o, none⟩ = false := fun o => by rw [hf6 _ _ (by omega)]; simp [go_sem]
  have HE6 := Lib.hid (bstep HE5.out (by simp; omega) hb6)
  have HS6 := Lib.hid (HS5.out.keep hb6)
  clear hb6 HI hc6 hf6 HE5 HS5 rf5 
  go_wp2_with fail
  refine (HF32.out _).mono ?_
  rintro e w7 ⟨rfl, hb7⟩
  obtain ⟨hc7, hf7⟩ := bcell hb7
  have hz7 := hb7.size
  have R7 : w.heap.size < w7.heap.size := by omega
  have V7 : w4.heap.size < w7.heap.size := by omega
  have O7 : w5.heap.size < w7.heap.size := by omega
  have v0b := (hc7 w4.heap.size 0 (by omega)).trans v0a
  have v1b := (hc7 w4.heap.size 1 (by omega)).trans v1a
  have v2b := (hc7 w4.heap.size 2 (by omega)).trans v2a
  have v3b := (hc7 w4.heap.size 3 (by omega)).trans v3a
  have v4b := (hc7 w4.heap.size 4 (by omega)).trans v4a
  have r0b := (hc7 w.heap.size 0 (by omega)).trans r0a
  have r1b := (hc7 w.heap.size 1 (by omega)).trans r1a
  have r2b := (hc7 w.heap.size 2 (by omega)).trans r2a
  have r3b := (hc7 w.heap.size 3 (by omega)).trans r3a
  have r4b := (hc7 w.heap.size 4 (by omega)).trans r4a
  have o0b := (hc7 w5.heap.size 0 (by omega)).trans o0a
  have o1b := (hc7 w5.heap.size 1 (by omega)).trans o1a
  have o2b := (hc7 w5.heap.size 2 (by omega)).trans o2a
  have o3b := (hc7 w5.heap.size 3 (by omega)).trans o3a
  have o4b := (hc7 w5.heap.size 4 (by omega)).trans o4a
  have rf7 : ∀ o, w7.frozen? ⟨w.heap.size, o, none⟩ = false := fun o => (hf7 _ o (by omega)).trans (rf6 o)
  have of7 : ∀ o, w7.frozen? ⟨w5.heap.size, o, none⟩ = false := fun o => (hf7 _ o (by omega)).trans (of6 o)
  have HE7 := Lib.hid (bstep HE6.out (by omega) hb7)
  have HS7 := Lib.hid (HS6.out.keep hb7)
  clear hb7 HF32 hc7 hf7 HE6 HS6 rf6 of6 v0a v1a v2a v3a v4a r0a r1a r2a r3a r4a o0a o1a o2a o3a o4a
  go_wp2_with fail
  refine (HPB.out _).mono ?_
  rintro e w8 ⟨rfl, hb8⟩
  obtain ⟨hc8, hf8⟩ := bcell hb8
  have hz8 := hb8.size
  have R8 : w.heap.size < w8.heap.size := by omega
  have V8 : w4.heap.size < w8.heap.size := by omega
  have O8 : w5.heap.size < w8.heap.size := by omega
  have v0c := (hc8 w4.heap.size 0 (by omega)).trans v0b
  have v1c := (hc8 w4.heap.size 1 (by omega)).trans v1b
  have v2c := (hc8 w4.heap.size 2 (by omega)).trans v2b
  have v3c := (hc8 w4.heap.size 3 (by omega)).trans v3b
  have v4c := (hc8 w4.heap.size 4 (by omega)).trans v4b
  have r0c := (hc8 w.heap.size 0 (by omega)).trans r0b
  have r1c := (hc8 w.heap.size 1 (by omega)).trans r1b
  have r2c := (hc8 w.heap.size 2 (by omega)).trans r2b
  have r3c := (hc8 w.heap.size 3 (by omega)).trans r3b
  have r4c := (hc8 w.heap.size 4 (by omega)).trans r4b
  have o0c := (hc8 w5.heap.size 0 (by omega)).trans o0b
  have o1c := (hc8 w5.heap.size 1 (by omega)).trans o1b
  have o2c := (hc8 w5.heap.size 2 (by omega)).trans o2b
  have o3c := (hc8 w5.heap.size 3 (by omega)).trans o3b
  have o4c := (hc8 w5.heap.size 4 (by omega)).trans o4b
  have rf8 : ∀ o, w8.frozen? ⟨w.heap.size, o, none⟩ = false := fun o => (hf8 _ o (by omega)).trans (rf7 o)
  have of8 : ∀ o, w8.frozen? ⟨w5.heap.size, o, none⟩ = false := fun o => (hf8 _ o (by omega)).trans (of7 o)
  have HE8 := Lib.hid (bstep HE7.out (by omega) hb8)
  have HS8 := Lib.hid (HS7.out.keep hb8)
  clear hb8 HPB hc8 hf8 HE7 HS7 rf7 of7 v0b v1b v2b v3b v4b r0b r1b r2b r3b r4b o0b o1b o2b o3b o4b
  go_wp2_with fail
  refine (HO.out _ _ _ HS8.out).mono ?_
  rintro e w9 ⟨A9, c9, rfl, hs9, ho9, hb9⟩
  obtain ⟨hc9, hf9⟩ := bcell hb9
  have hz9 := hb9.size
  have R9 : w.heap.size < w9.heap.size := by omega
  have O9 : w5.heap.size < w9.heap.size := by omega
  have r0d := (hc9 w.heap.size 0 (by omega)).trans r0c
  have r1d := (hc9 w.heap.size 1 (by omega)).trans r1c
  have r2d := (hc9 w.heap.size 2 (by omega)).trans r2c
  have r3d := (hc9 w.heap.size 3 (by omega)).trans r3c
  have r4d := (hc9 w.heap.size 4 (by omega)).trans r4c
  have o0d := (hc9 w5.heap.size 0 (by omega)).trans o0c
  have o1d := (hc9 w5.heap.size 1 (by omega)).trans o1c
  have o2d := (hc9 w5.heap.size 2 (by omega)).trans o2c
  have o3d := (hc9 w5.heap.size 3 (by omega)).trans o3c
  have o4d := (hc9 w5.heap.size 4 (by omega)).trans o4c
  have rf9 : ∀ o, w9.frozen? ⟨w.heap.size, o, none⟩ = false := fun o => (hf9 _ o (by omega)).trans (rf8 o)
  have of9 : ∀ o, w9.frozen? ⟨w5.heap.size, o, none⟩ = false := fun o => (hf9 _ o (by omega)).trans (of8 o)
  have HE9 := Lib.hid (bstep HE8.out (by omega) hb9)
  have HS9 := Lib.hid hs9
  have HN9 : Hid (∀ a, A9 = some a → w8.heap.size ≤ a.block) := Lib.hid ho9.newer
  have hne1 : w.heap.size ≠ w5.heap.size := by omega
  have hne2 : w5.heap.size ≠ w.heap.size := by omega
  have hZ : w5.heap.size < w8.heap.size := by omega
  clear hb9 HO hc9 hf9 hs9 ho9 HE8 HS8 rf8 of8 v0c v1c v2c v3c v4c r0c r1c r2c r3c r4c o0c o1c o2c o3c o4c
  go_wp2_with fail
  have hbb : w.heap.size ≤ w.heap.size := Nat.le_refl _
  have hbo : w.heap.size ≤ w5.heap.size := by omega
  have n1 : ∀ a, A9 = some a → a.block ≠ w.heap.size := fun a ha => by have := HN9.out a ha; omega
  have n2 : ∀ a, A9 = some a → a.block ≠ w5.heap.size := fun a ha => by have := HN9.out a ha; omega
  exact bodyPost_ret (v := .tuple #[ivec16 A9 q c9 y, .bool true]) (by simp [results, Tryd.results20, go_sem, ivec16, r0d, r1d, r2d, r3d, r4d, R9, O9, hne1, hne2]) rfl ⟨A9, c9, rfl, ((((((HS9.out.far n2 _).far n2 _).far n1 _).far n1 _).far n1 _).far n1 _).far n1 _, ((((((HE9.out.setCell hbo _).setCell hbo _).setCell hbb _).setCell hbb _).setCell hbb _).setCell hbb _).setCell hbb _⟩
end Go.Proofs.YtjjfdamlicoeeaaDoor.X
