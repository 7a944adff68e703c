/- Contract of NewVector at floats of 32 bits. -/
import Derived.Test.YtjjfdamlicoeeaaDoorVecN
set_option linter.unusedVariables false
set_option linter.unusedSimpArgs false
set_option maxRecDepth 100000
namespace Go.Proofs.YtjjfdamlicoeeaaDoor.X
open Go.RowKit Go.Deep
theorem infoF32 : (Tryd.prog.info? 84).map (fun i => (i.zero, i.size, i.bytes)) = some (some (.float .f32 0), 1, 4) := by kernel_rfl
theorem sizeF32 : (Tryd.prog.info? 84).map (·.size) = some 1 := by kernel_rfl
/-- A vector of floats, as the package holds it. -/
def vecF32 (A : Option Addr) (n c : Nat) : Value := .agg #[.int .u8 39, .slice none 0 0, .slice A n c, .slice none 0 0, .int .u8 0]
theorem newVecF32 (A : Option Addr) (c : Nat) (l : List Value) (w : World) (hs : GS w A c l) (h1c : ∀ u ∈ l, u.oneCell' = true) (hl : l.length ≤ 1000000) :
    Calls Tryd.prog 100 #[.slice A l.length c] w fun e w' => ∃ A', e = .returned (vecF32 A' l.length l.length) ∧ GS w' A' l.length l ∧ (∀ a, A' = some a → w.heap.size ≤ a.block) ∧ Below w.heap.size w w' := by
  have t0 : ∀ W : World, (Instr.typeAssert (.iface 72 (.slice A l.length c)) 20 39 true).run Tryd.prog W = .ok (.tuple #[.slice none 0 0, .bool false]) W := fun W => by rfl
  have t1 : ∀ W : World, (Instr.typeAssert (.iface 72 (.slice A l.length c)) 20 72 true).run Tryd.prog W = .ok (.tuple #[.slice A l.length c, .bool true]) W := fun W => by rfl
  have hmk := run_make_row' (P := Tryd.prog) 72 84 (.float .f32 0) 4 Tryd.underlying72 infoF32 rfl .i64 .i64 l.length (by omega) (by omega)
  obtain ⟨q, hq⟩ : ∃ q, q = l.length := ⟨_, rfl⟩
  rw [← hq] at t0 t1 hmk ⊢
  have hqq : q ≤ 1000000 := by omega
  have HQ := Lib.hid hq
  clear hq hl
  go_enter Tryd.func100, Tryd.ntmps100
  go_wp2_with (first | (refine wpList_copy_splice rfl (.tmp 31) (.tmp 32) 72 72 rfl 84 Tryd.underlying72 sizeF32 (some ⟨w.heap.size + 1 + 1, 0, none⟩) A q q q c rfl rfl (w.heap.size + 1 + 1) 0 (madeCells #[.float .f32 0] q).toList 84 ?h1 l ?h2 ?h3 ?h4 h1c (w.heap.size + 1 + 1) _ (Below.refl _ _) (Nat.le_refl _) ?_) | fail)
  case h1 => simpa using heap_alloc_new ((w.alloc _).alloc _) (.cells (madeCells #[.float .f32 0] q) 84)
  case h2 => have := HQ.out; rw [← this]; simp
  case h3 => exact fun hp => gs_src (((hs.alloc _).alloc _).alloc _) hp
  case h4 => have := HQ.out; simp [size_madeCells]; omega
  intro w4 hg4 hb4
  have hz4 := hb4.size
  simp only [World.size_alloc] at hz4
  have hc4 : ∀ b o, b < w.heap.size + 1 + 1 → w4.cell? ⟨b, o, none⟩ = _ := fun b o h => hb4.cell (p := ⟨b, o, none⟩) h
  have hf4 : ∀ b o, b < w.heap.size + 1 + 1 → w4.frozen? ⟨b, o, none⟩ = _ := fun b o h => hb4.frozen (p := ⟨b, o, none⟩) h
  have hend := (balloc (balloc (balloc (Below.refl _ w) (Nat.le_refl _) _) (by simp) _) (by first | (simp; done) | (simp; omega)) _).trans (hb4.mono (by omega))
  have hown : GS w4 (some ⟨w.heap.size + 1 + 1, 0, none⟩) q l := by
    have hq := HQ.out
    have hcur : splice (madeCells #[Value.float .f32 0] q).toList 0 l = l := by
      have h0 : (madeCells #[Value.float .f32 0] q).toList.drop l.length = [] := List.drop_eq_nil_of_le (by simp [size_madeCells]; omega)
      simp [splice, h0]
    have hg := hg4.out
    rw [hcur] at hg
    rw [hq]
    exact gs_row hg (by omega)
  clear hg4
  have hk0 := hc4 w.heap.size 0 (by omega)
  have hk1 := hc4 w.heap.size 1 (by omega)
  have hk2 := hc4 w.heap.size 2 (by omega)
  have hk3 := hc4 w.heap.size 3 (by omega)
  have hk4 := hc4 w.heap.size 4 (by omega)
  simp [go_sem] at hk0 hk1 hk2 hk3 hk4
  have hlt : w.heap.size < w4.heap.size := by omega
  have hne : ∀ a, some (⟨w.heap.size + 1 + 1, 0, none⟩ : Addr) = some a → a.block ≠ w.heap.size := fun a h => by injection h with h; subst h; show w.heap.size + 1 + 1 ≠ w.heap.size; omega
  have hbb : w.heap.size ≤ w.heap.size := Nat.le_refl _
  go_wp2_with fail
  exact bodyPost_ret (v := vecF32 (some ⟨w.heap.size + 1 + 1, 0, none⟩) q q) (by simp [results, Tryd.results100, go_sem, vecF32, hk0, hk1, hk2, hk3, hk4, hlt]) rfl ⟨_, rfl, ((((hown.far hne _).far hne _).far hne _).far hne _).far hne _, fun a ha => by injection ha with ha; subst ha; show w.heap.size ≤ w.heap.size + 1 + 1; omega, ((((hend.setCell hbb _).setCell hbb _).setCell hbb _).setCell hbb _).setCell hbb _⟩
end Go.Proofs.YtjjfdamlicoeeaaDoor.X
