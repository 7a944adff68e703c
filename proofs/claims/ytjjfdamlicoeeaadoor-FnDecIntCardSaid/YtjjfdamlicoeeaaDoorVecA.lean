/- Contracts of vectors of 8 bits: what makes them, and what writes them as bytes. -/
import Derived.Test.YtjjfdamlicoeeaaDoorGen
import Derived.Test.YtjjfdamlicoeeaaDoorOwn
import Derived.Test.YtjjfdamlicoeeaaDoorFresh
import Derived.Deep.OwnRows
set_option linter.unusedVariables false
set_option linter.unusedSimpArgs false
set_option maxRecDepth 100000
namespace Go.Proofs.YtjjfdamlicoeeaaDoor.X
open Go.RowKit Go.Deep
theorem infoI8 : (Tryd.prog.info? 71).map (fun i => (i.zero, i.size, i.bytes)) = some (some (.int .i8 0), 1, 1) := by kernel_rfl
theorem sizeI8 : (Tryd.prog.info? 71).map (·.size) = some 1 := by kernel_rfl
/-- A vector of 8 bits, as the package holds it. -/
def vecI8 (A : Option Addr) (n c : Nat) : Value := .agg #[.int .u8 3, .slice A n c, .slice none 0 0, .slice none 0 0, .int .u8 0]
theorem newVecI8 (A : Option Addr) (c : Nat) (l : List Value) (w : World) (hs : GS w A c l) (h1c : ∀ u ∈ l, u.oneCell' = true) (hl : l.length ≤ 140737488351232) :
    Calls Tryd.prog 46 #[.slice A l.length c] w fun e w' => ∃ A', e = .returned (vecI8 A' l.length l.length) ∧ GS w' A' l.length l ∧ (∀ a, A' = some a → w.heap.size ≤ a.block) ∧ Below w.heap.size w w' := by
  have t1 : ∀ W : World, (Instr.typeAssert (.iface 39 (.slice A l.length c)) 20 39 true).run Tryd.prog W = .ok (.tuple #[.slice A l.length c, .bool true]) W := fun W => by rfl
  have hmk := run_make_row' (P := Tryd.prog) 39 71 (.int .i8 0) 1 Tryd.underlying39 infoI8 rfl .i64 .i64 l.length (by omega) (by omega)
  obtain ⟨q, hq⟩ : ∃ q, q = l.length := ⟨_, rfl⟩
  rw [← hq] at t1 hmk ⊢
  have hqq : q ≤ 140737488351232 := by omega
  have HQ := Lib.hid hq
  clear hq hl
  go_enter Tryd.func46, Tryd.ntmps46
  go_wp2_with (first | (refine wpList_copy_splice rfl (.tmp 19) (.tmp 20) 39 39 rfl 71 Tryd.underlying39 sizeI8 (some ⟨w.heap.size + 1 + 1, 0, none⟩) A q q q c rfl rfl (w.heap.size + 1 + 1) 0 (madeCells #[.int .i8 0] q).toList 71 ?h1 l ?h2 ?h3 ?h4 h1c (w.heap.size + 1 + 1) _ (Below.refl _ _) (Nat.le_refl _) ?_) | fail)
  case h1 => simpa using heap_alloc_new ((w.alloc _).alloc _) (.cells (madeCells #[.int .i8 0] q) 71)
  case h2 => have := HQ.out; rw [← this]; simp
  case h3 => exact fun hp => gs_src (((hs.alloc _).alloc _).alloc _) hp
  case h4 => have := HQ.out; simp [size_madeCells]; omega
  intro w4 hg4 hb4
  have hz4 := hb4.size
  simp only [World.size_alloc] at hz4
  have hc4 : ∀ b o, b < w.heap.size + 1 + 1 → w4.cell? ⟨b, o, none⟩ = _ := fun b o h => hb4.cell (p := ⟨b, o, none⟩) h
  have hf4 : ∀ b o, b < w.heap.size + 1 + 1 → w4.frozen? ⟨b, o, none⟩ = _ := fun b o h => hb4.frozen (p := ⟨b, o, none⟩) h
  have hend := (balloc (balloc (balloc (Below.refl _ w) (Nat.le_refl _) _) (by simp) _) (by first | (simp; done) | (simp; omega)) _).trans (hb4.mono (by omega))
  have hown : GS w4 (some ⟨w.heap.size + 1 + 1, 0, none⟩) q l := by
    have hq := HQ.out
    have hcur : splice (madeCells #[Value.int .i8 0] q).toList 0 l = l := by
      have h0 : (madeCells #[Value.int .i8 0] q).toList.drop l.length = [] := List.drop_eq_nil_of_le (by simp [size_madeCells]; omega)
      simp [splice, h0]
    have hg := hg4.out
    rw [hcur] at hg
    rw [hq]
    exact gs_row hg (by omega)
  clear hg4
  have hk0 := hc4 w.heap.size 0 (by omega)
  have hk1 := hc4 w.heap.size 1 (by omega)
  have hk2 := hc4 w.heap.size 2 (by omega)
  have hk3 := hc4 w.heap.size 3 (by omega)
  have hk4 := hc4 w.heap.size 4 (by omega)
  simp [go_sem] at hk0 hk1 hk2 hk3 hk4
  have hlt : w.heap.size < w4.heap.size := by omega
  have hne : ∀ a, some (⟨w.heap.size + 1 + 1, 0, none⟩ : Addr) = some a → a.block ≠ w.heap.size := fun a h => by injection h with h; subst h; show w.heap.size + 1 + 1 ≠ w.heap.size; omega
  have hbb : w.heap.size ≤ w.heap.size := Nat.le_refl _
  go_wp2_with fail
  exact bodyPost_ret (v := vecI8 (some ⟨w.heap.size + 1 + 1, 0, none⟩) q q) (by simp [results, Tryd.results46, go_sem, vecI8, hk0, hk1, hk2, hk3, hk4, hlt]) rfl ⟨_, rfl, ((((hown.far hne _).far hne _).far hne _).far hne _).far hne _, fun a ha => by injection ha with ha; subst ha; show w.heap.size ≤ w.heap.size + 1 + 1; omega, ((((hend.setCell hbb _).setCell hbb _).setCell hbb _).setCell hbb _).setCell hbb _⟩
theorem vecType (A : Option Addr) (n c : Nat) (w : World) : Calls Tryd.prog 40 #[vecI8 A n c] w fun e w' => e = .returned (.int .u8 3) ∧ Below w.heap.size w w' := by
  unfold vecI8
  go_enter Tryd.func40, Tryd.ntmps40
  go_wp2
  go_ret
  exact ⟨rfl, balloc (Below.refl _ _) (Nat.le_refl _) _⟩
theorem vecInt8OK (A : Option Addr) (n c : Nat) (w : World) : Calls Tryd.prog 41 #[vecI8 A n c] w fun e w' => e = .returned (.tuple #[.slice A n c, .bool true]) ∧ Below w.heap.size w w' := by
  unfold vecI8
  go_enter Tryd.func41, Tryd.ntmps41
  go_wp2
  go_ret2
  exact ⟨rfl, balloc (Below.refl _ _) (Nat.le_refl _) _⟩
theorem vecInt8 (A : Option Addr) (n c : Nat) (w : World) : Calls Tryd.prog 71 #[vecI8 A n c] w fun e w' => e = .returned (.slice A n c) ∧ Below w.heap.size w w' := by
  have H := fun wx => vecInt8OK A n c wx
  unfold vecI8 at H ⊢
  go_enter Tryd.func71, Tryd.ntmps71
  go_wp2_with fail
  refine (H _).mono ?_
  rintro e w1 ⟨rfl, hb⟩
  have hend := bstep (balloc (Below.refl _ w) (Nat.le_refl _) _) (by simp) hb
  clear hb H
  go_wp2_with fail
  go_ret
  exact ⟨rfl, hend⟩
end Go.Proofs.YtjjfdamlicoeeaaDoor.X
