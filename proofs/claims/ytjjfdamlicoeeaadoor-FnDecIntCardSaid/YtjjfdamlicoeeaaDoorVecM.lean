/- Contracts of spec.VectorOf where there is no vector. -/
import Derived.Test.YtjjfdamlicoeeaaDoorVecL
set_option linter.unusedVariables false
set_option linter.unusedSimpArgs false
set_option maxRecDepth 100000
namespace Go.Proofs.YtjjfdamlicoeeaaDoor.X
open Go.RowKit Go.Deep
theorem specOf_sub (A : Option Addr) (n c : Nat) (k : Int) (w : World) (hk : ¬ k = 9) :
    Calls Tryd.prog 19 #[.int .i64 k, .slice A n c] w fun e w' => e = .returned (.tuple #[ivec0, .bool false]) ∧ Below w.heap.size w w' := by
  have f1 : (k != 9) = true := by simpa using hk
  clear hk
  go_enter Tryd.func19, Tryd.ntmps19
  go_wp2
  exact bodyPost_ret (v := .tuple #[ivec0, .bool false]) (by simp [results, Tryd.results19, go_sem, ivec0]) rfl ⟨rfl, by first | exact balloc (Below.refl _ _) (Nat.le_refl _) _ | exact balloc (balloc (Below.refl _ _) (Nat.le_refl _) _) (by simp) _⟩
theorem specOf_short (A : Option Addr) (n c : Nat) (w : World) (hn : n < 2) :
    Calls Tryd.prog 19 #[.int .i64 9, .slice A n c] w fun e w' => e = .returned (.tuple #[ivec0, .bool false]) ∧ Below w.heap.size w w' := by
  have d1 : decide ((n : Int) < 2) = true := by simp; omega
  clear hn
  go_enter Tryd.func19, Tryd.ntmps19
  go_wp2
  exact bodyPost_ret (v := .tuple #[ivec0, .bool false]) (by simp [results, Tryd.results19, go_sem, ivec0]) rfl ⟨rfl, by first | exact balloc (Below.refl _ _) (Nat.le_refl _) _ | exact balloc (balloc (Below.refl _ _) (Nat.le_refl _) _) (by simp) _⟩

theorem specOf3_no (A : Option Addr) (c : Nat) (p : UInt8) (r : List UInt8) (w : World) (hs : SB w A c (3 :: p :: r)) (hp : 0 < p.toNat) (hl : r.length ≤ 1000000) :
    Calls Tryd.prog 19 #[.int .i64 9, .slice A (r.length + 2) c] w fun e w' => e = .returned (.tuple #[ivec0, .bool false]) ∧ Below w.heap.size w w' := by
  obtain ⟨b, off, rfl, hc⟩ := hs.cells (by simp)
  have hc0 := hc 0 (by simp)
  have hc1 := hc 1 (by simp)
  simp at hc0 hc1
  have hblt : b < w.heap.size := World.block_lt_of_cell? w _ hc0
  have hb1 : b < w.heap.size + 1 := by omega
  have hb2 : b < w.heap.size + 1 + 1 := by omega
  obtain ⟨A1, e1, s1⟩ := SB.from_ (P := Tryd.prog) Tryd.underlying38 rfl rfl .i64 (some ⟨b, off, none⟩) c (3 :: p :: r) 2 (by simp) hs.le
  have hle := hs.le
  have hcap := hs.cap
  simp only [List.length_cons, show r.length + 1 + 1 - 2 = r.length from by omega, Int.cast_ofNat_Int] at e1 hle
  obtain ⟨q, hq⟩ : ∃ q, q = r.length := ⟨_, rfl⟩
  obtain ⟨y, hy⟩ : ∃ y : Int, y = (p.toNat : Int) := ⟨_, rfl⟩
  have hyb : 0 ≤ y ∧ y ≤ 255 := by have := p.toNat_lt; omega
  rw [← hq] at e1 hle hl
  rw [← hq]
  rw [← hy] at hc1
  have hlt2 : decide ((q : Int) + 2 < 2) = false := by simp; omega
  have f1 : (y != 0) = true := by rw [bne_iff_ne]; omega
  clear hq hy hs hc s1 hp
  go_enter Tryd.func19, Tryd.ntmps19
  go_wp2
  exact bodyPost_ret (v := .tuple #[ivec0, .bool false]) (by simp [results, Tryd.results19, go_sem, ivec0]) rfl ⟨rfl, by first | exact balloc (Below.refl _ _) (Nat.le_refl _) _ | exact balloc (balloc (Below.refl _ _) (Nat.le_refl _) _) (by simp) _⟩

theorem specOf_kind (A : Option Addr) (c : Nat) (k0 : UInt8) (p : UInt8) (r : List UInt8) (w : World) (hs : SB w A c (k0 :: p :: r)) (h3 : k0 ≠ 3) (h16 : k0 ≠ 16) (h39 : k0 ≠ 39) (hl : r.length ≤ 1000000) :
    Calls Tryd.prog 19 #[.int .i64 9, .slice A (r.length + 2) c] w fun e w' => e = .returned (.tuple #[ivec0, .bool false]) ∧ Below w.heap.size w w' := by
  obtain ⟨b, off, rfl, hc⟩ := hs.cells (by simp)
  have hc0 := hc 0 (by simp)
  have hc1 := hc 1 (by simp)
  simp at hc0 hc1
  have hblt : b < w.heap.size := World.block_lt_of_cell? w _ hc0
  have hb1 : b < w.heap.size + 1 := by omega
  have hb2 : b < w.heap.size + 1 + 1 := by omega
  obtain ⟨A1, e1, s1⟩ := SB.from_ (P := Tryd.prog) Tryd.underlying38 rfl rfl .i64 (some ⟨b, off, none⟩) c (k0 :: p :: r) 2 (by simp) hs.le
  have hle := hs.le
  have hcap := hs.cap
  simp only [List.length_cons, show r.length + 1 + 1 - 2 = r.length from by omega, Int.cast_ofNat_Int] at e1 hle
  obtain ⟨q, hq⟩ : ∃ q, q = r.length := ⟨_, rfl⟩
  obtain ⟨y, hy⟩ : ∃ y : Int, y = (p.toNat : Int) := ⟨_, rfl⟩
  have hyb : 0 ≤ y ∧ y ≤ 255 := by have := p.toNat_lt; omega
  rw [← hq] at e1 hle hl
  rw [← hq]
  rw [← hy] at hc1
  have hlt2 : decide ((q : Int) + 2 < 2) = false := by simp; omega
  obtain ⟨z, hz⟩ : ∃ z : Int, z = (k0.toNat : Int) := ⟨_, rfl⟩
  have hzb : 0 ≤ z ∧ z ≤ 255 := by have := k0.toNat_lt; omega
  have ne : ∀ n : Nat, n < 256 → k0 ≠ UInt8.ofNat n → ((k0.toNat : Int) == (n : Int)) = false := fun n hn h => by
    rw [beq_eq_false_iff_ne]
    intro e
    apply h
    have e2 : k0.toNat = n := by omega
    rw [← e2]
    simp
  have n3 := ne 3 (by omega) h3
  have n16 := ne 16 (by omega) h16
  have n39 := ne 39 (by omega) h39
  rw [← hz] at n3 n16 n39 hc0
  simp only [Int.cast_ofNat_Int] at n3 n16 n39
  have hwz : wrap64 z = z := by unfold wrap64; omega
  clear hq hy hs hc s1 ne h3 h16 h39 hz
  go_enter Tryd.func19, Tryd.ntmps19
  go_wp2
  exact bodyPost_ret (v := .tuple #[ivec0, .bool false]) (by simp [results, Tryd.results19, go_sem, ivec0]) rfl ⟨rfl, by first | exact balloc (Below.refl _ _) (Nat.le_refl _) _ | exact balloc (balloc (Below.refl _ _) (Nat.le_refl _) _) (by simp) _⟩

theorem specOf16_no (A : Option Addr) (c : Nat) (p : UInt8) (r : List UInt8) (w : World) (hs : SB w A c (16 :: p :: r)) (hp : 7 < p.toNat ∨ (0 < p.toNat ∧ r.length = 0)) (hl : r.length ≤ 1000000) :
    Calls Tryd.prog 19 #[.int .i64 9, .slice A (r.length + 2) c] w fun e w' => e = .returned (.tuple #[ivec0, .bool false]) ∧ Below w.heap.size w w' := by
  obtain ⟨b, off, rfl, hc⟩ := hs.cells (by simp)
  have hc0 := hc 0 (by simp)
  have hc1 := hc 1 (by simp)
  simp at hc0 hc1
  have hblt : b < w.heap.size := World.block_lt_of_cell? w _ hc0
  have hb1 : b < w.heap.size + 1 := by omega
  have hb2 : b < w.heap.size + 1 + 1 := by omega
  obtain ⟨A1, e1, s1⟩ := SB.from_ (P := Tryd.prog) Tryd.underlying38 rfl rfl .i64 (some ⟨b, off, none⟩) c (16 :: p :: r) 2 (by simp) hs.le
  have hle := hs.le
  have hcap := hs.cap
  simp only [List.length_cons, show r.length + 1 + 1 - 2 = r.length from by omega, Int.cast_ofNat_Int] at e1 hle
  obtain ⟨q, hq⟩ : ∃ q, q = r.length := ⟨_, rfl⟩
  obtain ⟨y, hy⟩ : ∃ y : Int, y = (p.toNat : Int) := ⟨_, rfl⟩
  have hyb : 0 ≤ y ∧ y ≤ 255 := by have := p.toNat_lt; omega
  rw [← hq] at e1 hle hl
  rw [← hq]
  rw [← hy] at hc1
  have hlt2 : decide ((q : Int) + 2 < 2) = false := by simp; omega
  have hp' : 7 < y ∨ (0 < y ∧ q = 0) := by omega
  clear hq hy hs hc s1 hp
  by_cases h7 : 7 < y
  · have d7 : decide ((7 : Int) < y) = true := by simpa using h7
    clear hp' h7
    go_enter Tryd.func19, Tryd.ntmps19
    go_wp2
    exact bodyPost_ret (v := .tuple #[ivec0, .bool false]) (by simp [results, Tryd.results19, go_sem, ivec0]) rfl ⟨rfl, by first | exact balloc (Below.refl _ _) (Nat.le_refl _) _ | exact balloc (balloc (Below.refl _ _) (Nat.le_refl _) _) (by simp) _⟩
  · have h0 : 0 < y ∧ q = 0 := by omega
    obtain ⟨h0, rfl⟩ := h0
    have d7 : decide ((7 : Int) < y) = false := by simpa using h7
    have d0 : decide ((0 : Int) < y) = true := by simpa using h0
    clear hp' h7 h0
    go_enter Tryd.func19, Tryd.ntmps19
    go_wp2
    exact bodyPost_ret (v := .tuple #[ivec0, .bool false]) (by simp [results, Tryd.results19, go_sem, ivec0]) rfl ⟨rfl, by first | exact balloc (Below.refl _ _) (Nat.le_refl _) _ | exact balloc (balloc (Below.refl _ _) (Nat.le_refl _) _) (by simp) _⟩
end Go.Proofs.YtjjfdamlicoeeaaDoor.X
