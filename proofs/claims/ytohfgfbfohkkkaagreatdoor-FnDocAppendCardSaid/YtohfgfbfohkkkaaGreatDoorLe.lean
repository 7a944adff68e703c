/- encoding/binary's little-endian reads and writes, laid from the shelf. -/
import Derived.Test.YtohfgfbfohkkkaaGreatDoorWords
import Derived.Shelf.Bin.LEUint32
import Derived.Shelf.Bin.LEUint64
import Derived.Shelf.Bin.LEPutUint32
import Derived.Shelf.Lay
import Derived.Ground.MnProg
set_option linter.unusedVariables false
namespace Go.Proofs.YtohfgfbfohkkkaaGreatDoor
open Go.Shelf
shelf_lay LaysBin.n30 Mn 30 at Tryz as Tryz.leUint32
shelf_lay LaysBin.n33 Mn 33 at Tryz as Tryz.leUint64
shelf_lay LaysBin.n31 Mn 31 at Tryz as Tryz.lePutUint32
end Go.Proofs.YtohfgfbfohkkkaaGreatDoor
namespace Go.Proofs.YtohfgfbfohkkkaaGreatDoor.X
open Go.RowKit
theorem leUint32 (A : Option Addr) (c : Nat) (b0 b1 b2 b3 : UInt8) (r : List UInt8) (w : World) (hs : SB w A c (b0 :: b1 :: b2 :: b3 :: r)) :
    Calls Tryz.prog 187 #[.agg #[], .slice A (b0 :: b1 :: b2 :: b3 :: r).length c] w fun e w' => e = .returned (.int .u32 (Lib.leNat [b0, b1, b2, b3])) ∧ Below w.heap.size w w' := by
  obtain ⟨b, off, rfl, hc⟩ := hs.cells (by simp)
  exact Any.binary_LE_Uint32 Tryz.leUint32 b off _ c b0 b1 b2 b3 w (by simp) (by have h := hc 0 (by simp); exact h) (by have h := hc 1 (by simp); exact h) (by have h := hc 2 (by simp); exact h) (by have h := hc 3 (by simp); exact h)
theorem leUint64 (A : Option Addr) (c : Nat) (b0 b1 b2 b3 b4 b5 b6 b7 : UInt8) (r : List UInt8) (w : World) (hs : SB w A c (b0 :: b1 :: b2 :: b3 :: b4 :: b5 :: b6 :: b7 :: r)) :
    Calls Tryz.prog 185 #[.agg #[], .slice A (b0 :: b1 :: b2 :: b3 :: b4 :: b5 :: b6 :: b7 :: r).length c] w fun e w' => e = .returned (.int .u64 (Lib.leNat [b0, b1, b2, b3, b4, b5, b6, b7])) ∧ Below w.heap.size w w' := by
  obtain ⟨b, off, rfl, hc⟩ := hs.cells (by simp)
  exact Any.binary_LE_Uint64 Tryz.leUint64 b off _ c b0 b1 b2 b3 b4 b5 b6 b7 w (by simp) (by have h := hc 0 (by simp); exact h) (by have h := hc 1 (by simp); exact h) (by have h := hc 2 (by simp); exact h) (by have h := hc 3 (by simp); exact h) (by have h := hc 4 (by simp); exact h) (by have h := hc 5 (by simp); exact h) (by have h := hc 6 (by simp); exact h) (by have h := hc 7 (by simp); exact h)
end Go.Proofs.YtohfgfbfohkkkaaGreatDoor.X
