/- The contract of strings.IndexByte, proved by hand: the library's own text, and the model's entry where it has no body. -/
import Derived.Test.YtepealmdnaondaaDoorProg
import Derived.Below
import Derived.Deep.Draws
import Derived.Deep.AppendLies
import Derived.Maps.AppendAt
import Derived.OwnWalk
import Derived.Laws.BytesArg
import Derived.Laws.MakeOwn
import Derived.Laws.OwnMore
import Derived.Deep.OwnRows
import Derived.Tactics
import Derived.Lib.ConvBytes
import Derived.Laws.Slices
import Derived.WalkKit
import Derived.KernelRfl
import Derived.RowKit3
import Derived.Deep.LoopGhost
import Derived.Deep.QuietTactic
import Derived.BigQuiet
import Derived.WideLaws
import Derived.Deep.DeepCutAuto
import Derived.Deep.CutBlock
import Derived.Deep.RegionHeld3
import Derived.Laws.Rows
import Derived.Lib.AppendStr
import Derived.ArgAppend
import Derived.Laws.IdiomCopy
import Derived.OrdersHeld
import Derived.Laws.BitsLemmas
import Derived.RowKit
import Derived.Test.YtepealmdnaondaaDoorWWords
import Derived.Test.YtepealmdnaondaaDoorWLast
import Derived.Test.YtepealmdnaondaaDoorWTab
import Derived.Test.YtepealmdnaondaaDoorWFour
import Derived.Test.YtepealmdnaondaaDoorWQPut
import Derived.Test.YtepealmdnaondaaDoorWApart
import Derived.Test.YtepealmdnaondaaDoorWArr
import Derived.Test.YtepealmdnaondaaDoorWZeros
import Derived.Test.YtepealmdnaondaaDoorWFoot
import Derived.Test.YtepealmdnaondaaDoorWKept
import Derived.Test.YtepealmdnaondaaDoorWShare
import Derived.Test.YtepealmdnaondaaDoorWN
import Derived.Test.YtepealmdnaondaaDoorWFootNe
import Derived.Test.YtepealmdnaondaaDoorWAt
import Derived.Test.YtepealmdnaondaaDoorWEqStruct
import Derived.Test.YtepealmdnaondaaDoorWRepsOne
import Derived.Test.YtepealmdnaondaaDoorWInv
import Derived.Test.YtepealmdnaondaaDoorWInvWords
import Derived.Test.YtepealmdnaondaaDoorWGuard
import Derived.Test.YtepealmdnaondaaDoorWNEv
import Derived.Test.YtepealmdnaondaaDoorWMore
import Derived.Lib.Bytealg
import Derived.Laws.Externs
namespace Go.Proofs.YtepealmdnaondaaDoor.Given
set_option maxRecDepth 100000
open Go.RowKit Go.Proofs.YtepealmdnaondaaDoorW.PrintWords Go.Proofs.YtepealmdnaondaaDoorW.PrintLast Go.Proofs.YtepealmdnaondaaDoorW.PrintMore

def strings_IndexByte.f (a0 : ByteArray) (a1 : Int) : Option Int := some (Lib.indexByte a0.data.toList a1.toNat.toUInt8)
theorem strings_IndexByte.calls (a0 : ByteArray) (a1 : Int) (r : Int) (w : World) (h : strings_IndexByte.f a0 a1 = some r) :
    Calls Tryd.prog 14 #[.string a0, .int .u8 a1] w fun e w' => e = .returned (.int .i64 r) ∧ Drawn0 w w' := by
  obtain rfl := Option.some.inj h
  go_enter Tryd.func14, Tryd.ntmps14
  go_wp2
  rw [run_callFunc_extern Tryd.func28 (by kernel_rfl) (by kernel_rfl) (by kernel_rfl) (e := Extern.BytealgIndexByte.indexByte) (by kernel_rfl), Lib.run_indexByteString a0 a1 w]
  simp only [Result.andThen]
  rw [Oper.upon_value]
  go_wp2
  go_ret
  exact ⟨rfl, Drawn0.refl _⟩
end Go.Proofs.YtepealmdnaondaaDoor.Given
