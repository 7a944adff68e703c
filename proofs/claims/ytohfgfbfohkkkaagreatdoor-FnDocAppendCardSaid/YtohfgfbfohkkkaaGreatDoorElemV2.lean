/- The value of a right element, and when two raw values are the same. -/
import Derived.Test.YtohfgfbfohkkkaaGreatDoorElemKV
set_option linter.unusedVariables false
set_option linter.unusedSimpArgs false
set_option maxRecDepth 100000
namespace Go.Proofs.YtohfgfbfohkkkaaGreatDoor.X
open Go.RowKit Go.Proofs.YtohfgfbfohkkkaaGreatDoorW.PrintLast

end Go.Proofs.YtohfgfbfohkkkaaGreatDoor.X
