/- A new writer of documents refuses what is no document. (gen_vw.py) -/
import Derived.Test.YtdgncemcfhocmaaGreatDoorGen
import Derived.Test.YtdgncemcfhocmaaGreatDoorWLast
import Derived.Test.YtdgncemcfhocmaaGreatDoorWTab
import Derived.Lib.Bytealg
set_option linter.unusedVariables false
set_option linter.unusedSimpArgs false
set_option maxRecDepth 100000
namespace Go.Proofs.YtdgncemcfhocmaaGreatDoor.X
open Go.RowKit Go.Proofs.YtdgncemcfhocmaaGreatDoorW.PrintLast
namespace Vw

/-- A writer on which nothing was written. -/
structure Vw0 (w : World) (B S : Nat) : Prop where
  c2 : w.cell? ⟨B, 2, none⟩ = some (.slice (some ⟨S, 0, none⟩) 1 5)
  c3 : w.cell? ⟨B, 3, none⟩ = some (.int .i64 0)
  m0 : w.cell? ⟨S, 0, none⟩ = some (.int .i64 1)
theorem Vw0.keep {w w1 : World} {B S : Nat} (h : Vw0 w B S) (hb : Below w.heap.size w w1) : Vw0 w1 B S :=
  ⟨(hb.cell (World.block_lt_of_cell? _ _ h.c2)).trans h.c2, (hb.cell (World.block_lt_of_cell? _ _ h.c3)).trans h.c3, (hb.cell (World.block_lt_of_cell? _ _ h.m0)).trans h.m0⟩
/-- An error, whatever it says. -/
def Err (e : Ending) : Prop := ∃ E x, e = .returned (.iface E x)
theorem newVw (E : TypeId) (x : Value) (w : World) : Calls Tryz.prog 36 #[.iface E x] w fun e w' => (∃ B S, e = .returned (.pointer (some ⟨B, 0, none⟩)) ∧ Vw0 w' B S) ∧ Below w.heap.size w w' := by
  have hmk : ∀ W : World, (Instr.makeSlice 83 (.int .i64 1) (.int .i64 5)).run Tryz.prog W = .ok (.slice (some ⟨W.heap.size, 0, none⟩) 1 5) (W.alloc (.cells #[.int .i64 0, .string ⟨#[]⟩, .int .i64 0, .int .i32 0, .int .i64 0, .string ⟨#[]⟩, .int .i64 0, .int .i32 0, .int .i64 0, .string ⟨#[]⟩, .int .i64 0, .int .i32 0, .int .i64 0, .string ⟨#[]⟩, .int .i64 0, .int .i32 0, .int .i64 0, .string ⟨#[]⟩, .int .i64 0, .int .i32 0] 82)) := fun W => by kernel_rfl
  go_enter Tryz.func36, Tryz.ntmps36
  go_wp2
  go_ret
  refine ⟨⟨w.heap.size, w.heap.size + 1, rfl, ⟨by simp [go_sem], by simp [go_sem], by simp [go_sem]⟩⟩, ?_⟩
  first | exact balloc (balloc (Below.refl _ _) (Nat.le_refl _) _) (by simp) _ | (repeat (first | exact balloc (balloc (Below.refl _ _) (Nat.le_refl _) _) (by simp) _ | refine Below.setCell ?_ (by simp) _))
theorem strIdx (s : ByteArray) (c : Int) (w : World) : Calls Tryz.prog 96 #[.string s, .int .u8 c] w fun e w' => (∃ n, e = .returned (.int .i64 n)) ∧ w = w' := by
  have h1 : Calls Tryz.prog 108 #[.string s, .int .u8 c] w fun e w' => (∃ n, e = .returned (.int .i64 n)) ∧ w = w' := by
    go_enter Tryz.func108, Tryz.ntmps108
    go_wp2
    rw [run_callFunc_extern Tryz.func113 (by kernel_rfl) (by kernel_rfl) (by kernel_rfl) (e := Extern.BytealgIndexByte.indexByte) (by kernel_rfl), Lib.run_indexByteString]
    simp only [Result.andThen]
    rw [Oper.upon_value]
    go_wp2
    go_ret
    exact ⟨⟨_, rfl⟩, rfl⟩
  have H1 := Lib.hid h1
  clear h1
  go_enter Tryz.func96, Tryz.ntmps96
  go_wp2_with fail
  refine H1.out.mono ?_
  rintro e w1 ⟨⟨n, rfl⟩, rfl⟩
  clear H1
  go_wp2_with fail
  go_ret
  exact ⟨⟨n, rfl⟩, rfl⟩
theorem invalid (B S : Nat) (d : Int) (s : ByteArray) (A : Option Addr) (n c : Nat) (w : World) (h : Vw0 w B S) : Calls Tryz.prog 40 #[.pointer (some ⟨B, 0, none⟩), .int .i64 d, .string s, .slice A n c] w fun e w' => Err e ∧ Below w.heap.size w w' := by
  obtain ⟨c2, c3, m0⟩ := h
  have l2 := World.block_lt_of_cell? _ _ c2
  have l3 := World.block_lt_of_cell? _ _ m0
  go_enter Tryz.func40, Tryz.ntmps40
  go_wp2_with fail
  go_region
  go_wp2_with fail
  go_ret
  refine ⟨⟨_, _, rfl⟩, ?_⟩
  first | exact bdrew (balloc (Below.refl _ _) (Nat.le_refl _) _) | exact balloc (bdrew (Below.refl _ _)) (Nat.le_refl _) _
theorem header (B S : Nat) (t : Value) (d : Int) (s : ByteArray) (w : World) (h : Vw0 w B S) : Calls Tryz.prog 38 #[.pointer (some ⟨B, 0, none⟩), t, .int .i64 d, .string s, .slice none 0 0] w fun e w' => Err e ∧ Below w.heap.size w w' := by
  have HI := Lib.hid (fun A n c wx (hb : Below w.heap.size w wx) => invalid B S d s A n c wx (h.keep hb))
  obtain ⟨c2, c3, m0⟩ := h
  go_enter Tryz.func38, Tryz.ntmps38
  go_wp2_with fail
  go_region
  go_wp2_with fail
  have hB : Below w.heap.size w (w.alloc (.cells #[.int .i64 5, .int .i64 4] 80)).drew := bdrew (balloc (Below.refl _ _) (Nat.le_refl _) _)
  have HBB := Lib.hid hB
  clear hB
  refine (HI.out _ _ _ _ HBB.out).mono ?_
  rintro e w1 ⟨⟨E, x, rfl⟩, hb1⟩
  have HB1 := Lib.hid (HBB.out.trans (hb1.mono HBB.out.size))
  clear hb1 HI
  go_wp2_with fail
  go_ret
  exact ⟨⟨E, x, rfl⟩, HB1.out⟩
end Vw
end Go.Proofs.YtdgncemcfhocmaaGreatDoor.X
