/- Contracts of copies: impl.own and docCopy. -/
import Derived.Test.YtdgncemcfhocmaaGreatDoorWords
set_option linter.unusedVariables false
set_option linter.unusedSimpArgs false
set_option maxRecDepth 100000
namespace Go.Proofs.YtdgncemcfhocmaaGreatDoor.X
open Go.RowKit
theorem infoO : (Tryz.prog.info? 5).map (fun i => (i.zero, i.size, i.bytes)) = some (some (.int .u8 0), 1, 1) := by kernel_rfl
theorem implOwn (A : Option Addr) (c : Nat) (l : List UInt8) (w : World) (hs : SB w A c l) (hl : l.length ≤ 140737488355328) :
    Calls Tryz.prog 27 #[.slice A l.length c] w (After fun v1 w1 => OB 5 w1 w.heap.size v1 l ∧ Below w.heap.size w w1) := by
  obtain ⟨v1, w1, hap, h1⟩ := app_run (P := Tryz.prog) (E := 5) 23 infoO Tryz.underlying23 23 w w.heap.size (.slice none 0 0) [] A c l (OB.nil _ _) hs (Nat.le_refl _) (by simpa using hl)
  go_enter Tryz.func27, Tryz.ntmps27
  go_wp2_with (first | (refine wp_app (.const (.slice none 0 0)) (.tmp 3) 23 rfl rfl infoO Tryz.underlying23 _ w.heap.size _ [] A c l rfl rfl (OB.nil _ _) hs (Nat.le_refl _) (by simpa using hl) ?_; intro v2 w2 h2) | fail)
  go_ret
  exact ⟨v2, rfl, by simpa using h2.own, h2.kept (OB.nil _ _) (Nat.le_refl _)⟩
end Go.Proofs.YtdgncemcfhocmaaGreatDoor.X
