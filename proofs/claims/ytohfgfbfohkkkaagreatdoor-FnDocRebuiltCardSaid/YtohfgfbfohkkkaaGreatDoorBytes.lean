/- Contracts of bytes.IndexByte and bytes.Equal, over slices that are read. -/
import Derived.Test.YtohfgfbfohkkkaaGreatDoorWords
import Derived.Lib.Strings
import Derived.Lib.Walk
import Derived.Lib.BytesEntry
import Derived.Lib.Bytealg
set_option linter.unusedVariables false
set_option linter.unusedSimpArgs false
set_option maxRecDepth 100000
namespace Go.Proofs.YtohfgfbfohkkkaaGreatDoor.X
open Go.RowKit

theorem run_index {P : Program} {w : World} {A : Option Addr} {c : Nat} {l : List UInt8} (hs : SB w A c l) (cv : Int) :
    (Extern.BytealgIndexByte.indexByte #[.slice A l.length c, .int .u8 cv]).run P w = .ok (.int .i64 (Lib.indexByte l cv.toNat.toUInt8)) w := by
  rcases Nat.eq_zero_or_pos l.length with h0 | h0
  · have : l = [] := List.eq_nil_of_length_eq_zero h0
    subst this
    cases A with
    | none => exact Lib.run_indexByteNil w 0 c cv
    | some a => exact Lib.run_indexByteNil w 0 c cv
  · obtain ⟨b, off, rfl, hc⟩ := hs.cells h0
    have h := Lib.run_indexByteSlice (P := P) w b off l.length c (l.map fun x : UInt8 => (x.toNat : Int)) (by simp) (fun i hi => by rw [hc i hi]; simp [hi]) cv
    have e : Lib.bytesOf (l.map fun x : UInt8 => (x.toNat : Int)) = l := by
      unfold Lib.bytesOf
      rw [List.map_map]
      conv => rhs; rw [← List.map_id l]
      apply List.map_congr_left
      intro x _
      simp
    rw [e] at h
    exact h
theorem bytesIndexByte (A : Option Addr) (c : Nat) (l : List UInt8) (z : Int) (w : World) (hs : SB w A c l) :
    Calls Tryz.prog 71 #[.slice A l.length c, .int .u8 z] w fun e w' => e = .returned (.int .i64 (Lib.indexByte l z.toNat.toUInt8)) ∧ w = w' := by
  go_enter Tryz.func71, Tryz.ntmps71
  go_wp2
  rw [run_callFunc_extern Tryz.func143 (by kernel_rfl) (by kernel_rfl) (by kernel_rfl) (e := Extern.BytealgIndexByte.indexByte) (by kernel_rfl), run_index hs z]
  simp only [Result.andThen]
  rw [Oper.upon_value]
  go_wp2
  go_ret
  exact ⟨rfl, rfl⟩
end Go.Proofs.YtohfgfbfohkkkaaGreatDoor.X
