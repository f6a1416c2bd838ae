-- Printed by a program of this session (mkprint.py over the kit's print.py)
import Derived.Test.YtepealmdnaondaaDoorProg
import Derived.Below
import Derived.Deep.Draws
import Derived.Deep.AppendLies
import Derived.Maps.AppendAt
import Derived.OwnWalk
import Derived.Laws.BytesArg
import Derived.Laws.MakeOwn
import Derived.Laws.OwnMore
import Derived.Deep.OwnRows
import Derived.Tactics
import Derived.Lib.ConvBytes
import Derived.Laws.Slices
import Derived.WalkKit
import Derived.KernelRfl
import Derived.RowKit3
import Derived.Deep.LoopGhost
import Derived.Deep.QuietTactic
import Derived.BigQuiet
import Derived.WideLaws
import Derived.Deep.DeepCutAuto
import Derived.Deep.CutBlock
import Derived.Deep.RegionHeld3
import Derived.Laws.Rows
import Derived.Lib.AppendStr
import Derived.ArgAppend
import Derived.Laws.IdiomCopy
import Derived.OrdersHeld
import Derived.Laws.BitsLemmas
import Derived.RowKit
import Derived.Test.YtepealmdnaondaaDoorWWords
import Derived.Test.YtepealmdnaondaaDoorWLast
import Derived.Test.YtepealmdnaondaaDoorWTab
import Derived.Test.YtepealmdnaondaaDoorWFour
import Derived.Test.YtepealmdnaondaaDoorWQPut
import Derived.Test.YtepealmdnaondaaDoorWApart
import Derived.Test.YtepealmdnaondaaDoorWArr
import Derived.Test.YtepealmdnaondaaDoorWZeros
import Derived.Test.YtepealmdnaondaaDoorWFoot
import Derived.Test.YtepealmdnaondaaDoorWKept
import Derived.Test.YtepealmdnaondaaDoorWShare
import Derived.Test.YtepealmdnaondaaDoorWN
import Derived.Test.YtepealmdnaondaaDoorWFootNe
import Derived.Test.YtepealmdnaondaaDoorWAt
import Derived.Test.YtepealmdnaondaaDoorWEqStruct
import Derived.Test.YtepealmdnaondaaDoorWRepsOne
import Derived.Test.YtepealmdnaondaaDoorWInv
import Derived.Test.YtepealmdnaondaaDoorWInvWords
import Derived.Test.YtepealmdnaondaaDoorWGuard
import Derived.Test.YtepealmdnaondaaDoorWNEv
import Derived.Test.YtepealmdnaondaaDoorWMore
import Derived.Test.YtepealmdnaondaaDoorGIdx
namespace Go.Proofs.YtepealmdnaondaaDoor.PSpl
open Go.RowKit Go.Proofs.YtepealmdnaondaaDoorW.PrintWords Go.Proofs.YtepealmdnaondaaDoorW.PrintLast Go.Proofs.YtepealmdnaondaaDoorW.PrintMore
attribute [local go_sem] max2_int min2_int max_two min_two max_three min_three max_four min_four   -- for this text's walks alone
set_option linter.unusedVariables false
set_option linter.unusedSimpArgs false



def errW : Option Int → Value
  | none => .nilIface
  | some c => .iface 0 (.int .i64 c)
theorem errW_none : errW none = .nilIface := rfl
theorem errW_some (c : Int) : errW (some c) = .iface 0 (.int .i64 c) := rfl

theorem info5 : (Tryd.prog.info? 5).map (fun i => (i.zero, i.size, i.bytes)) = some (some (.int .u8 0), 1, 1) := by kernel_rfl
-- the values' own types

end Go.Proofs.YtepealmdnaondaaDoor.PSpl
