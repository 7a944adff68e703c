/- Contracts of docCopy and of the appenders of numbers. -/
import Derived.Test.YtdmnogjgifapnaaOwn
import Derived.Test.YtdmnogjgifapnaaDoc6
set_option linter.unusedVariables false
set_option linter.unusedSimpArgs false
namespace Go.Proofs.Ytdmnogjgifapnaa.X
open Go.RowKit
theorem docCopy (A : Option Addr) (c : Nat) (l : List UInt8) (w : World) (hs : SB w A c l) (hl : l.length ≤ 140737488355328) :
    Calls Try.prog 11 #[.slice A l.length c] w (After fun v1 w1 => OB 5 w1 w.heap.size v1 l ∧ Below w.heap.size w w1) := by
  go_enter Try.func11, Try.ntmps11
  go_wp2_with (first | (refine wp_app (.tmp 3) (.tmp 4) 26 rfl rfl infoB Try.underlying26 _ w.heap.size _ [] A c l rfl rfl ?a1 ?a2 ?a3 ?a4 ?_) | fail)
  case a1 => exact OB.lit_ w w.heap.size (Nat.le_refl _) [] [] rfl (by simp) 0 rfl
  case a2 => exact hs.alloc _
  case a3 => simp
  case a4 => simpa using hl
  intro v2 w2 h2
  go_wp2
  go_ret
  exact ⟨v2, rfl, by simpa using h2.own, (balloc (Below.refl _ _) (Nat.le_refl _) _).trans (h2.kept (OB.lit_ w w.heap.size (Nat.le_refl _) [] [] rfl (by simp) 0 rfl) (by simp))⟩
end Go.Proofs.Ytdmnogjgifapnaa.X
