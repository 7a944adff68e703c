/- Contract of strconv.Itoa, laid from the shelf. -/
import Derived.Test.YtjjfdamlicoeeaaDoorWords
import Derived.Shelf.Strconv.Itoa3
import Derived.Shelf.Lay
set_option linter.unusedVariables false
namespace Go.Proofs.YtjjfdamlicoeeaaDoor
open Go.Shelf
shelf_lay LaysM.n171 Nm 171 at Tryd as Tryd.itoaLaid
end Go.Proofs.YtjjfdamlicoeeaaDoor
namespace Go.Proofs.YtjjfdamlicoeeaaDoor.X
open Go.RowKit
theorem grow_below {w : World} {B : Nat} (hB : B ≤ w.heap.size) (k : Nat) (os : Array Obj) : Below B w (Go.Sort.grow (w.drewN k) os) := by
  refine ⟨rfl, rfl, rfl, by simp [Go.Sort.grow, World.drewN], fun i hi => ?_⟩
  show (w.heap ++ os)[i]? = w.heap[i]?
  rw [Array.getElem?_append_left (by omega)]
theorem itoa (n : Int) (h0 : -9223372036854775808 ≤ n) (h1 : n ≤ 9223372036854775807) (w : World) (htab : Lib.TabIs Tryd.prog w "internal/strconv.uint64pow10" .u64 Lib.pow10Tab) :
    Calls Tryd.prog 57 #[.int .i64 n] w fun e w' => e = .returned (.string ⟨(Lib.itoa n).toArray⟩) ∧ Below w.heap.size w w' := by
  refine (Any.strconv_Itoa Tryd.itoaLaid n h0 h1 w htab).mono ?_
  rintro e w' ⟨rfl, k, os, rfl⟩
  exact ⟨rfl, grow_below (Nat.le_refl _) k os⟩
end Go.Proofs.YtjjfdamlicoeeaaDoor.X
