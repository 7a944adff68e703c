/- Contracts of impl.VectorOf at floats of 32 bits. -/
import Derived.Test.YtjjfdamlicoeeaaDoorVecR
import Derived.Deep.Heap
set_option linter.unusedVariables false
set_option linter.unusedSimpArgs false
set_option maxRecDepth 100000
namespace Go.Proofs.YtjjfdamlicoeeaaDoor.X
open Go.RowKit Go.Deep Go.Proofs.YtjjfdamlicoeeaaDoorW.PrintLast

theorem infoU32 : (Tryd.prog.info? 45).map (fun i => (i.zero, i.size, i.bytes)) = some (some (.int .u32 0), 1, 4) := by kernel_rfl
theorem fType (A : Option Addr) (n c : Nat) (w : World) : Calls Tryd.prog 40 #[vecF32 A n c] w fun e w' => e = .returned (.int .u8 39) ∧ Below w.heap.size w w' := by
  unfold vecF32
  go_enter Tryd.func40, Tryd.ntmps40
  go_wp2
  go_ret
  exact ⟨rfl, balloc (Below.refl _ _) (Nat.le_refl _) _⟩
theorem fInt8no (A : Option Addr) (n c : Nat) (w : World) : Calls Tryd.prog 41 #[vecF32 A n c] w fun e w' => e = .returned (.tuple #[.slice none 0 0, .bool false]) ∧ Below w.heap.size w w' := by
  unfold vecF32
  go_enter Tryd.func41, Tryd.ntmps41
  go_wp2
  go_ret2
  exact ⟨rfl, balloc (Below.refl _ _) (Nat.le_refl _) _⟩
theorem fF32OK (A : Option Addr) (n c : Nat) (w : World) : Calls Tryd.prog 42 #[vecF32 A n c] w fun e w' => e = .returned (.tuple #[.slice A n c, .bool true]) ∧ Below w.heap.size w w' := by
  unfold vecF32
  go_enter Tryd.func42, Tryd.ntmps42
  go_wp2
  go_ret2
  exact ⟨rfl, balloc (Below.refl _ _) (Nat.le_refl _) _⟩
theorem fBitsno (A : Option Addr) (n c : Nat) (w : World) : Calls Tryd.prog 44 #[vecF32 A n c] w fun e w' => e = .returned (.tuple #[.slice none 0 0, .int .u8 0, .bool false]) ∧ Below w.heap.size w w' := by
  unfold vecF32
  go_enter Tryd.func44, Tryd.ntmps44
  go_wp2
  exact bodyPost_ret (v := .tuple #[.slice none 0 0, .int .u8 0, .bool false]) (by simp [results, Tryd.results44, go_sem]) rfl ⟨rfl, balloc (Below.refl _ _) (Nat.le_refl _) _⟩
def u32v (l : List Nat) : List Value := l.map fun n : Nat => .int .u32 (n : Int)
theorem u32v_one (l : List Nat) : ∀ u ∈ u32v l, u.oneCell' = true := by
  intro u hu
  simp only [u32v, List.mem_map] at hu
  obtain ⟨x, _, rfl⟩ := hu
  rfl
/-- A vector of floats, as the thin package gives it. -/
def ivec39 (A : Option Addr) (n c : Nat) : Value := .agg #[.int .i64 39, .slice none 0 0, .slice A n c, .slice none 0 0, .int .i64 0]
/-- The box that the floats are appended to. -/
structure FC (w0 : World) (V : Nat) (L : List Value) (v : Value) (wr : World) : Prop where
  c0 : wr.cell? ⟨V, 0, none⟩ = some (.int .i64 39)
  c1 : wr.cell? ⟨V, 1, none⟩ = some (.slice none 0 0)
  c2 : wr.cell? ⟨V, 2, none⟩ = some v
  c3 : wr.cell? ⟨V, 3, none⟩ = some (.slice none 0 0)
  c4 : wr.cell? ⟨V, 4, none⟩ = some (.int .i64 0)
  fz : ∀ o, wr.frozen? ⟨V, o, none⟩ = false
  og : OG 45 wr V v L
  own : v.ownBlock ≠ some V
  bl : Below V w0 wr
  lt : V < wr.heap.size
theorem FC.step {w0 wr W w5 : World} {V : Nat} {v v5 : Value} {L L2 : List Value} (h : FC w0 V L v wr) (hW : Below wr.heap.size wr W) (hap : AppG (E := 45) W V v L2 v5 w5) :
    w5.cell? ⟨V, 2, none⟩ = some v ∧ w5.frozen? ⟨V, 2, none⟩ = false ∧ V < w5.heap.size ∧ FC w0 V L2 v5 (w5.setCell ⟨V, 2, none⟩ v5) := by
  have hsz := hap.grown.size
  have hsW := hW.size
  have hV := h.lt
  have hblk : w5.heap[V]? = wr.heap[V]? := by
    rw [hap.grown.block V (by omega) (fun e => h.own e.symm)]
    exact hW.block V hV
  have kc : ∀ o, w5.cell? ⟨V, o, none⟩ = wr.cell? ⟨V, o, none⟩ := fun o => by unfold World.cell?; simp only [hblk]
  have kf : ∀ o, w5.frozen? ⟨V, o, none⟩ = wr.frozen? ⟨V, o, none⟩ := fun o => by unfold World.frozen?; simp only [hblk]
  have hlt5 : V < w5.heap.size := by omega
  have hnew : v5.ownBlock ≠ some V := by
    rcases hap.at_ with e | ⟨b, e, hb2⟩
    · rw [e]; exact h.own
    · rw [e]; intro h; injection h with h; omega
  have hown5 : OG 45 (w5.setCell ⟨V, 2, none⟩ v5) V v5 L2 := by
    refine ⟨hap.own.1.kept (row := some V) ⟨rfl, rfl, rfl, by simp, fun j _ hj => ?_⟩ (.inr hnew), hap.own.2⟩
    exact Go.Deep.blk_setCell_other _ _ _ _ (fun e => hj (by rw [e]))
  have ot : ∀ o, o ≠ 2 → (w5.setCell ⟨V, 2, none⟩ v5).cell? ⟨V, o, none⟩ = wr.cell? ⟨V, o, none⟩ := fun o ho => by
    rw [World.cell?_setCell_other _ _ _ _ (by intro e; injection e with e1 e2; exact ho e2.symm)]
    exact kc o
  have h1 := (kc 2).trans h.c2
  refine ⟨h1, (kf 2).trans (h.fz 2), hlt5, ⟨(ot 0 (by omega)).trans h.c0, (ot 1 (by omega)).trans h.c1, ?_, (ot 3 (by omega)).trans h.c3, (ot 4 (by omega)).trans h.c4, fun o => by rw [World.frozen?_setCell]; exact (kf o).trans (h.fz o), hown5, hnew, ?_, by simpa using hlt5⟩⟩
  · simp [go_sem, h1, hlt5]
  · have h2 := (h.bl.trans (hW.mono (Nat.le_of_lt hV))).trans (hap.kept (h.og.keep hW) (by omega))
    exact h2.setCell (Nat.le_refl _) _
theorem u32v_push (l : List Nat) (k : Nat) (h : k < l.length) : u32v (l.take (k + 1)) = u32v (l.take k) ++ [.int .u32 ((l[k] : Nat) : Int)] := by
  rw [List.take_succ_eq_append_getElem h]
  simp only [u32v, List.map_append, List.map_cons, List.map_nil]
end Go.Proofs.YtjjfdamlicoeeaaDoor.X
