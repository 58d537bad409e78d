-- PRINTED BY print.sh 35421559b90ae4d0a3588c463048766b98c2df88dd9212a6774a882060cdf62d: not written by this session
import Derived.Test.YtfamhjnjlgdglaaProg
import Derived.Below
import Derived.Deep.Draws
import Derived.Deep.AppendLies
import Derived.Maps.AppendAt
import Derived.OwnWalk
import Derived.Laws.BytesArg
import Derived.Laws.MakeOwn
import Derived.Laws.OwnMore
import Derived.Deep.OwnRows
import Derived.Tactics
import Derived.Lib.ConvBytes
import Derived.Laws.Slices
import Derived.WalkKit
import Derived.KernelRfl
import Derived.RowKit3
import Derived.Deep.LoopGhost
import Derived.Deep.QuietTactic
import Derived.BigQuiet
import Derived.WideLaws
import Derived.Deep.DeepCutAuto
import Derived.Deep.CutBlock
import Derived.Deep.RegionHeld3
import Derived.Laws.Rows
import Derived.Lib.AppendStr
import Derived.ArgAppend
import Derived.Laws.IdiomCopy
import Derived.OrdersHeld
import Derived.Laws.BitsLemmas
import Derived.RowKit
import Derived.Test.YtfamhjnjlgdglaaWWords
import Derived.Test.YtfamhjnjlgdglaaWLast
import Derived.Test.YtfamhjnjlgdglaaWTab
import Derived.Test.YtfamhjnjlgdglaaWFour
import Derived.Test.YtfamhjnjlgdglaaWQPut
import Derived.Test.YtfamhjnjlgdglaaWApart
import Derived.Test.YtfamhjnjlgdglaaWArr
import Derived.Test.YtfamhjnjlgdglaaWZeros
import Derived.Test.YtfamhjnjlgdglaaWFoot
import Derived.Test.YtfamhjnjlgdglaaWKept
import Derived.Test.YtfamhjnjlgdglaaWShare
import Derived.Test.YtfamhjnjlgdglaaWN
import Derived.Test.YtfamhjnjlgdglaaWFootNe
import Derived.Test.YtfamhjnjlgdglaaWAt
import Derived.Test.YtfamhjnjlgdglaaWEqStruct
import Derived.Test.YtfamhjnjlgdglaaWRepsOne
import Derived.Test.YtfamhjnjlgdglaaWInv
import Derived.Test.YtfamhjnjlgdglaaWInvWords
import Derived.Test.YtfamhjnjlgdglaaWGuard
import Derived.Test.YtfamhjnjlgdglaaWNEv
import Derived.Test.YtfamhjnjlgdglaaWMore
namespace Go.Proofs.Ytfamhjnjlgdglaa.PFnDocKindNames
open Go.RowKit Go.Proofs.YtfamhjnjlgdglaaW.PrintWords Go.Proofs.YtfamhjnjlgdglaaW.PrintLast Go.Proofs.YtfamhjnjlgdglaaW.PrintMore
attribute [local go_sem] max2_int min2_int max_two min_two max_three min_three max_four min_four   -- for this text's walks alone
set_option linter.unusedVariables false
set_option linter.unusedSimpArgs false



def errW : Option Int → Value
  | none => .nilIface
  | some c => .iface 0 (.int .i64 c)
theorem errW_none : errW none = .nilIface := rfl
theorem errW_some (c : Int) : errW (some c) = .iface 0 (.int .i64 c) := rfl

-- the values' own types

end Go.Proofs.Ytfamhjnjlgdglaa.PFnDocKindNames
