/- Contracts of NewVectorFromBinary at vectors of 8 bits with a padding. -/
import Derived.Test.YtjjfdamlicoeeaaDoorVecJ
set_option linter.unusedVariables false
set_option linter.unusedSimpArgs false
set_option maxRecDepth 100000
namespace Go.Proofs.YtjjfdamlicoeeaaDoor.X
open Go.RowKit Go.Deep Go.Proofs.YtjjfdamlicoeeaaDoorW.PrintLast
theorem newInt8_no (A : Option Addr) (c : Nat) (p : UInt8) (r : List UInt8) (w : World) (hs : SB w A c (p :: r)) (hE : Errs w) (hp : 0 < p.toNat) (hl : r.length ≤ 1000000) :
    Calls Tryd.prog 67 #[.slice A (r.length + 1) c] w fun e w' => ∃ T x, e = .returned (.tuple #[vec0, .iface T x]) ∧ Below w.heap.size w w' := by
  obtain ⟨b, off, rfl, hc⟩ := hs.cells (by simp)
  have hc0 := hc 0 (by simp)
  simp at hc0
  have hblt : b < w.heap.size := World.block_lt_of_cell? w _ hc0
  have hb1 : b < w.heap.size + 1 := by omega
  obtain ⟨T, x, hx⟩ := hE.pad
  have hlt : 8 < w.heap.size := World.block_lt_of_cell? w _ hx
  have hlt1 : 8 < w.heap.size + 1 := by omega
  have hlt2 : 8 < w.heap.size + 1 + 1 := by omega
  obtain ⟨q, hq⟩ : ∃ q, q = r.length := ⟨_, rfl⟩
  obtain ⟨y, hy⟩ : ∃ y : Int, y = (p.toNat : Int) := ⟨_, rfl⟩
  rw [← hy] at hc0
  rw [← hq]
  have hne0 : ((q : Int) + 1 == 0) = false := by rw [beq_eq_false_iff_ne]; omega
  have d1 : decide ((0 : Int) < y) = true := by simp; omega
  clear hq hy hs hc hp hl hE
  go_enter Tryd.func67, Tryd.ntmps67
  go_wp2_with fail
  go_region
  all_goals go_wp2_with fail
  have hbb : w.heap.size ≤ w.heap.size := Nat.le_refl _
  exact bodyPost_ret (v := .tuple #[vec0, .iface T x]) (by simp [results, Tryd.results67, go_sem, vec0]) rfl ⟨T, x, rfl, bdrew (balloc (balloc (Below.refl _ w) (Nat.le_refl _) _) (by simp) _)⟩
theorem fromBin3_no (A : Option Addr) (c : Nat) (p : UInt8) (r : List UInt8) (w : World) (hs : SB w A c (3 :: p :: r)) (hE : Errs w) (hp : 0 < p.toNat) (hl : r.length ≤ 1000000) :
    Calls Tryd.prog 39 #[.agg #[.int .u8 9, .slice A (r.length + 2) c]] w fun e w' => ∃ T x, e = .returned (.tuple #[vec0, .iface T x]) ∧ Below w.heap.size w w' := by
  obtain ⟨b, off, rfl, hc⟩ := hs.cells (by simp)
  have hc0 := hc 0 (by simp)
  simp at hc0
  have hblt : b < w.heap.size := World.block_lt_of_cell? w _ hc0
  have hle := hs.le
  have hcap := hs.cap
  obtain ⟨A1, e1, s1⟩ := SB.from_ (P := Tryd.prog) Tryd.underlying38 rfl rfl .i64 (some ⟨b, off, none⟩) c (3 :: p :: r) 1 (by simp) hle
  have HN := Lib.hid (fun wx hb (h : SB wx A1 (c - 1) (p :: r)) => newInt8_no A1 (c - 1) p r wx h (hE.keep hb) hp hl)
  have HS : Hid (∀ wx, SB wx (some ⟨b, off, none⟩) c (3 :: p :: r) → SB wx A1 (c - 1) (p :: r)) := Lib.hid s1
  simp only [List.length_cons, show r.length + 1 + 1 - 1 = r.length + 1 from by omega, Int.cast_ofNat_Int] at e1
  obtain ⟨q, hq⟩ : ∃ q, q = r.length := ⟨_, rfl⟩
  simp only [List.length_cons] at hle
  rw [← hq] at hl e1 HN hle ⊢
  have hlt2 : decide ((q : Int) + 2 < 2) = false := by simp; omega
  have hb1 : b < w.heap.size + 1 := by omega
  have hb2 : b < w.heap.size + 1 + 1 := by omega
  have hs1 := Lib.hid hs
  clear hq hc hs s1 hp hE
  go_enter Tryd.func39, Tryd.ntmps39
  have HB := ((hs1.out.alloc (.cells #[.int .u8 9, .slice (some ⟨b, off, none⟩) (q + 2) c] 78)).alloc (.cells #[.int .u8 0, .slice none 0 0, .slice none 0 0, .slice none 0 0, .int .u8 0] 74)).alloc (.cells #[.int .u8 0, .slice none 0 0, .slice none 0 0, .slice none 0 0, .int .u8 0] 74)
  have HB2 := Lib.hid (HS.out _ HB)
  have HBW := Lib.hid (balloc (balloc (balloc (Below.refl _ w) (Nat.le_refl _) (.cells #[.int .u8 9, .slice (some ⟨b, off, none⟩) (q + 2) c] 78)) (by simp) (.cells #[.int .u8 0, .slice none 0 0, .slice none 0 0, .slice none 0 0, .int .u8 0] 74)) (by first | (simp; done) | (simp; omega)) (.cells #[.int .u8 0, .slice none 0 0, .slice none 0 0, .slice none 0 0, .int .u8 0] 74))
  clear HB
  go_wp2_with fail
  refine (HN.out _ HBW.out HB2.out).mono ?_
  rintro e w4 ⟨T4, x4, rfl, hb4⟩
  obtain ⟨hc4, hf4⟩ := bcell hb4
  have hz4 := hb4.size
  simp only [World.size_alloc] at hz4 hc4 hf4
  have hl4 : w.heap.size + 1 < w4.heap.size := by omega
  have d0 := hc4 (w.heap.size + 1) 0 (by omega)
  have d1 := hc4 (w.heap.size + 1) 1 (by omega)
  have d2 := hc4 (w.heap.size + 1) 2 (by omega)
  have d3 := hc4 (w.heap.size + 1) 3 (by omega)
  have d4 := hc4 (w.heap.size + 1) 4 (by omega)
  simp [go_sem] at d0 d1 d2 d3 d4
  have hend := (balloc (balloc (balloc (Below.refl _ w) (Nat.le_refl _) _) (by simp) _) (by first | (simp; done) | (simp; omega)) _).trans (hb4.mono (by first | (simp; done) | (simp; omega)))
  clear hb4 HB2 HN HS
  unfold vec0
  go_wp2_with fail
  have hbb : w.heap.size ≤ w.heap.size + 1 := Nat.le_succ _
  exact bodyPost_ret (v := .tuple #[vec0, .iface T4 x4]) (by simp [results, Tryd.results39, go_sem, vec0, d0, d1, d2, d3, d4, hl4]) rfl ⟨T4, x4, rfl, ((((hend.setCell hbb _).setCell hbb _).setCell hbb _).setCell hbb _).setCell hbb _⟩

end Go.Proofs.YtjjfdamlicoeeaaDoor.X
