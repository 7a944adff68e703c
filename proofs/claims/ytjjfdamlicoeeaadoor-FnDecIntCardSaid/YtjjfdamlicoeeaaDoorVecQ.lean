/- Contracts of math.Float32bits and math.Float32frombits: in the model a float is its bits. -/
import Derived.Test.YtjjfdamlicoeeaaDoorVecO
import Derived.Laws.Externs
set_option linter.unusedVariables false
set_option linter.unusedSimpArgs false
set_option maxRecDepth 100000
namespace Go.Proofs.YtjjfdamlicoeeaaDoor.X
open Go.RowKit Go.Deep
theorem frombits_fn : Tryd.prog.funcs[98]? = some Tryd.f98 := by kernel_rfl
theorem tobits_fn : Tryd.prog.funcs[43]? = some Tryd.f43 := by kernel_rfl
/-- math.Float32frombits. -/
theorem frombits (n : Int) (w : World) : (callFunc 98 #[.int .u32 n]).run Tryd.prog w = .ok (.value (.float .f32 n.toNat)) w := by
  rw [run_callFunc_extern frombits_fn (by kernel_rfl) (by kernel_rfl) (by kernel_rfl) (e := Extern.MathFloatBits.float32frombits) (by kernel_rfl)]
  rfl
/-- math.Float32bits. -/
theorem tobits (n : Nat) (w : World) : (callFunc 43 #[.float .f32 n]).run Tryd.prog w = .ok (.value (.int .u32 n)) w := by
  rw [run_callFunc_extern tobits_fn (by kernel_rfl) (by kernel_rfl) (by kernel_rfl) (e := Extern.MathFloatBits.float32bits) (by kernel_rfl)]
  rfl
end Go.Proofs.YtjjfdamlicoeeaaDoor.X
