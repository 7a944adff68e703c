-- PRINTED BY print.sh 35421559b90ae4d0a3588c463048766b98c2df88dd9212a6774a882060cdf62d: not written by this session
import Derived.Test.YtfpnhlfmnoikhaaProg
import Derived.Below
import Derived.Deep.Draws
import Derived.Deep.AppendLies
import Derived.Maps.AppendAt
import Derived.OwnWalk
import Derived.Laws.BytesArg
import Derived.Laws.MakeOwn
import Derived.Laws.OwnMore
import Derived.Deep.OwnRows
import Derived.Tactics
import Derived.Lib.ConvBytes
import Derived.Laws.Slices
import Derived.WalkKit
import Derived.KernelRfl
import Derived.RowKit3
import Derived.Deep.LoopGhost
import Derived.Deep.QuietTactic
import Derived.BigQuiet
import Derived.WideLaws
import Derived.Deep.DeepCutAuto
import Derived.Deep.CutBlock
import Derived.Deep.RegionHeld3
import Derived.Laws.Rows
import Derived.Lib.AppendStr
import Derived.ArgAppend
import Derived.Laws.IdiomCopy
import Derived.OrdersHeld
import Derived.Laws.BitsLemmas
import Derived.RowKit
import Derived.Test.YtfpnhlfmnoikhaaWWords
import Derived.Test.YtfpnhlfmnoikhaaWLast
import Derived.Test.YtfpnhlfmnoikhaaWTab
import Derived.Test.YtfpnhlfmnoikhaaWFour
import Derived.Test.YtfpnhlfmnoikhaaWQPut
import Derived.Test.YtfpnhlfmnoikhaaWApart
import Derived.Test.YtfpnhlfmnoikhaaWArr
import Derived.Test.YtfpnhlfmnoikhaaWZeros
import Derived.Test.YtfpnhlfmnoikhaaWFoot
import Derived.Test.YtfpnhlfmnoikhaaWKept
import Derived.Test.YtfpnhlfmnoikhaaWShare
import Derived.Test.YtfpnhlfmnoikhaaWN
import Derived.Test.YtfpnhlfmnoikhaaWFootNe
import Derived.Test.YtfpnhlfmnoikhaaWAt
import Derived.Test.YtfpnhlfmnoikhaaWEqStruct
import Derived.Test.YtfpnhlfmnoikhaaWRepsOne
import Derived.Test.YtfpnhlfmnoikhaaWInv
import Derived.Test.YtfpnhlfmnoikhaaWInvWords
import Derived.Test.YtfpnhlfmnoikhaaWGuard
import Derived.Test.YtfpnhlfmnoikhaaWNEv
import Derived.Test.YtfpnhlfmnoikhaaWMore
namespace Go.Proofs.Ytfpnhlfmnoikhaa.PFnDecKinds
open Go.RowKit Go.Proofs.YtfpnhlfmnoikhaaW.PrintWords Go.Proofs.YtfpnhlfmnoikhaaW.PrintLast Go.Proofs.YtfpnhlfmnoikhaaW.PrintMore
attribute [local go_sem] max2_int min2_int max_two min_two max_three min_three max_four min_four   -- for this text's walks alone
set_option linter.unusedVariables false
set_option linter.unusedSimpArgs false



def errW : Option Int → Value
  | none => .nilIface
  | some c => .iface 0 (.int .i64 c)
theorem errW_none : errW none = .nilIface := rfl
theorem errW_some (c : Int) : errW (some c) = .iface 0 (.int .i64 c) := rfl

-- the values' own types

end Go.Proofs.Ytfpnhlfmnoikhaa.PFnDecKinds
