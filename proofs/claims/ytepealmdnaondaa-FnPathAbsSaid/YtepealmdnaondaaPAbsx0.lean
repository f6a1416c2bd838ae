-- Printed by a program of this session (mkprint.py over the kit's print.py)
import Derived.Test.YtepealmdnaondaaProg
import Derived.Below
import Derived.Deep.Draws
import Derived.Deep.AppendLies
import Derived.Maps.AppendAt
import Derived.OwnWalk
import Derived.Laws.BytesArg
import Derived.Laws.MakeOwn
import Derived.Laws.OwnMore
import Derived.Deep.OwnRows
import Derived.Tactics
import Derived.Lib.ConvBytes
import Derived.Laws.Slices
import Derived.WalkKit
import Derived.KernelRfl
import Derived.RowKit3
import Derived.Deep.LoopGhost
import Derived.Deep.QuietTactic
import Derived.BigQuiet
import Derived.WideLaws
import Derived.Deep.DeepCutAuto
import Derived.Deep.CutBlock
import Derived.Deep.RegionHeld3
import Derived.Laws.Rows
import Derived.Lib.AppendStr
import Derived.ArgAppend
import Derived.Laws.IdiomCopy
import Derived.OrdersHeld
import Derived.Laws.BitsLemmas
import Derived.RowKit
import Derived.Test.YtepealmdnaondaaWWords
import Derived.Test.YtepealmdnaondaaWLast
import Derived.Test.YtepealmdnaondaaWTab
import Derived.Test.YtepealmdnaondaaWFour
import Derived.Test.YtepealmdnaondaaWQPut
import Derived.Test.YtepealmdnaondaaWApart
import Derived.Test.YtepealmdnaondaaWArr
import Derived.Test.YtepealmdnaondaaWZeros
import Derived.Test.YtepealmdnaondaaWFoot
import Derived.Test.YtepealmdnaondaaWKept
import Derived.Test.YtepealmdnaondaaWShare
import Derived.Test.YtepealmdnaondaaWN
import Derived.Test.YtepealmdnaondaaWFootNe
import Derived.Test.YtepealmdnaondaaWAt
import Derived.Test.YtepealmdnaondaaWEqStruct
import Derived.Test.YtepealmdnaondaaWRepsOne
import Derived.Test.YtepealmdnaondaaWInv
import Derived.Test.YtepealmdnaondaaWInvWords
import Derived.Test.YtepealmdnaondaaWGuard
import Derived.Test.YtepealmdnaondaaWNEv
import Derived.Test.YtepealmdnaondaaWMore
import Derived.Test.YtepealmdnaondaaOpens
import Derived.Test.YtepealmdnaondaaGiven4
namespace Go.Proofs.Ytepealmdnaondaa.PAbs
open Go.RowKit Go.Proofs.YtepealmdnaondaaW.PrintWords Go.Proofs.YtepealmdnaondaaW.PrintLast Go.Proofs.YtepealmdnaondaaW.PrintMore
attribute [local go_sem] max2_int min2_int max_two min_two max_three min_three max_four min_four   -- for this text's walks alone
set_option linter.unusedVariables false
set_option linter.unusedSimpArgs false



def errW : Option Int → Value
  | none => .nilIface
  | some c => .iface 0 (.int .i64 c)
theorem errW_none : errW none = .nilIface := rfl
theorem errW_some (c : Int) : errW (some c) = .iface 0 (.int .i64 c) := rfl

theorem info5 : (Try.prog.info? 5).map (fun i => (i.zero, i.size, i.bytes)) = some (some (.int .u8 0), 1, 1) := by kernel_rfl
-- the values' own types

end Go.Proofs.Ytepealmdnaondaa.PAbs
