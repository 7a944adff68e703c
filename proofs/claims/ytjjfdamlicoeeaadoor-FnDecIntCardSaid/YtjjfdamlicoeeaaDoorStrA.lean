/- decimal128.String: for all 128 bits. -/
import Derived.Test.YtjjfdamlicoeeaaDoorStrW
import Derived.Test.YtjjfdamlicoeeaaDoorStrC
set_option linter.unusedVariables false
set_option linter.unusedSimpArgs false
set_option maxRecDepth 100000
namespace Go.Proofs.YtjjfdamlicoeeaaDoor.X
open Go.RowKit
/-- The text of 128 bits. -/
def decT (h l : Int) : ByteArray := if k5P h = 31 then ⟨#[78, 97, 78]⟩ else if k5P h = 30 then INF (sgP h) else if hiP h = 0 ∧ loP h l = 0 ∧ exP h = 0 then ZER (sgP h) else finT (sgP h) (outr 5 (s0P (exP h) (hiP h) (loP h l)))
theorem decStr_any (h l : Int) (w : World) (h1 : 0 ≤ h) (h2 : h ≤ 18446744073709551615) (h3 : 0 ≤ l) (h4 : l ≤ 18446744073709551615) (htab : Lib.TabIs Tryd.prog w "internal/strconv.uint64pow10" .u64 Lib.pow10Tab) :
    Calls Tryd.prog 33 #[.int .u64 h, .int .u64 l] w fun e w' => e = .returned (.string (decT h l)) ∧ Below w.heap.size w w' := by
  unfold decT
  by_cases c1 : k5P h = 31
  · rw [if_pos c1]; exact decStr_nan h l w h1 h2 c1
  rw [if_neg c1]
  by_cases c2 : k5P h = 30
  · rw [if_pos c2]; exact decStr_inf h l w h1 h2 c2
  rw [if_neg c2]
  by_cases c3 : hiP h = 0 ∧ loP h l = 0 ∧ exP h = 0
  · rw [if_pos c3]; exact decStr_zero h l w h1 h2 h3 h4 htab c1 c2 c3
  · rw [if_neg c3]; exact decStr h l w h1 h2 h3 h4 htab c1 c2 c3
end Go.Proofs.YtjjfdamlicoeeaaDoor.X
