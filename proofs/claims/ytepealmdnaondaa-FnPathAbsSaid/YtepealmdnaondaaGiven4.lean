/- The contract of strings.IndexByte, proved by hand: the library's own text, and the model's entry where it has no body. -/
import Derived.Test.YtepealmdnaondaaProg
import Derived.Below
import Derived.Deep.Draws
import Derived.Deep.AppendLies
import Derived.Maps.AppendAt
import Derived.OwnWalk
import Derived.Laws.BytesArg
import Derived.Laws.MakeOwn
import Derived.Laws.OwnMore
import Derived.Deep.OwnRows
import Derived.Tactics
import Derived.Lib.ConvBytes
import Derived.Laws.Slices
import Derived.WalkKit
import Derived.KernelRfl
import Derived.RowKit3
import Derived.Deep.LoopGhost
import Derived.Deep.QuietTactic
import Derived.BigQuiet
import Derived.WideLaws
import Derived.Deep.DeepCutAuto
import Derived.Deep.CutBlock
import Derived.Deep.RegionHeld3
import Derived.Laws.Rows
import Derived.Lib.AppendStr
import Derived.ArgAppend
import Derived.Laws.IdiomCopy
import Derived.OrdersHeld
import Derived.Laws.BitsLemmas
import Derived.RowKit
import Derived.Test.YtepealmdnaondaaWWords
import Derived.Test.YtepealmdnaondaaWLast
import Derived.Test.YtepealmdnaondaaWTab
import Derived.Test.YtepealmdnaondaaWFour
import Derived.Test.YtepealmdnaondaaWQPut
import Derived.Test.YtepealmdnaondaaWApart
import Derived.Test.YtepealmdnaondaaWArr
import Derived.Test.YtepealmdnaondaaWZeros
import Derived.Test.YtepealmdnaondaaWFoot
import Derived.Test.YtepealmdnaondaaWKept
import Derived.Test.YtepealmdnaondaaWShare
import Derived.Test.YtepealmdnaondaaWN
import Derived.Test.YtepealmdnaondaaWFootNe
import Derived.Test.YtepealmdnaondaaWAt
import Derived.Test.YtepealmdnaondaaWEqStruct
import Derived.Test.YtepealmdnaondaaWRepsOne
import Derived.Test.YtepealmdnaondaaWInv
import Derived.Test.YtepealmdnaondaaWInvWords
import Derived.Test.YtepealmdnaondaaWGuard
import Derived.Test.YtepealmdnaondaaWNEv
import Derived.Test.YtepealmdnaondaaWMore
import Derived.Lib.Bytealg
import Derived.Laws.Externs
namespace Go.Proofs.Ytepealmdnaondaa.Given
open Go.RowKit Go.Proofs.YtepealmdnaondaaW.PrintWords Go.Proofs.YtepealmdnaondaaW.PrintLast Go.Proofs.YtepealmdnaondaaW.PrintMore

def strings_IndexByte.f (a0 : ByteArray) (a1 : Int) : Option Int := some (Lib.indexByte a0.data.toList a1.toNat.toUInt8)
theorem strings_IndexByte.calls (a0 : ByteArray) (a1 : Int) (r : Int) (w : World) (h : strings_IndexByte.f a0 a1 = some r) :
    Calls Try.prog 38 #[.string a0, .int .u8 a1] w fun e w' => e = .returned (.int .i64 r) ∧ Drawn0 w w' := by
  obtain rfl := Option.some.inj h
  go_enter Try.func38, Try.ntmps38
  go_wp2
  rw [run_callFunc_extern Try.func41 (by kernel_rfl) (by kernel_rfl) (by kernel_rfl) (e := Extern.BytealgIndexByte.indexByte) (by kernel_rfl), Lib.run_indexByteString a0 a1 w]
  simp only [Result.andThen]
  rw [Oper.upon_value]
  go_wp2
  go_ret
  exact ⟨rfl, Drawn0.refl _⟩
end Go.Proofs.Ytepealmdnaondaa.Given
