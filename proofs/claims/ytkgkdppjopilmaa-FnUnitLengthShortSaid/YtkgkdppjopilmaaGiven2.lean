/- The contract of dwarf.UnitLength in the print's form. -/
import Derived.Test.YtkgkdppjopilmaaProg
import Derived.Below
import Derived.Deep.Draws
import Derived.Deep.AppendLies
import Derived.Maps.AppendAt
import Derived.OwnWalk
import Derived.Laws.BytesArg
import Derived.Laws.MakeOwn
import Derived.Laws.OwnMore
import Derived.Deep.OwnRows
import Derived.Tactics
import Derived.Lib.ConvBytes
import Derived.Laws.Slices
import Derived.WalkKit
import Derived.KernelRfl
import Derived.RowKit3
import Derived.Deep.LoopGhost
import Derived.Deep.QuietTactic
import Derived.BigQuiet
import Derived.WideLaws
import Derived.Deep.DeepCutAuto
import Derived.Deep.CutBlock
import Derived.Deep.RegionHeld3
import Derived.Laws.Rows
import Derived.Lib.AppendStr
import Derived.ArgAppend
import Derived.Laws.IdiomCopy
import Derived.OrdersHeld
import Derived.Laws.BitsLemmas
import Derived.RowKit
import Derived.Test.YtkgkdppjopilmaaWWords
import Derived.Test.YtkgkdppjopilmaaWLast
import Derived.Test.YtkgkdppjopilmaaWTab
import Derived.Test.YtkgkdppjopilmaaWFour
import Derived.Test.YtkgkdppjopilmaaWQPut
import Derived.Test.YtkgkdppjopilmaaWApart
import Derived.Test.YtkgkdppjopilmaaWArr
import Derived.Test.YtkgkdppjopilmaaWZeros
import Derived.Test.YtkgkdppjopilmaaWFoot
import Derived.Test.YtkgkdppjopilmaaWKept
import Derived.Test.YtkgkdppjopilmaaWShare
import Derived.Test.YtkgkdppjopilmaaWN
import Derived.Test.YtkgkdppjopilmaaWFootNe
import Derived.Test.YtkgkdppjopilmaaWAt
import Derived.Test.YtkgkdppjopilmaaWEqStruct
import Derived.Test.YtkgkdppjopilmaaWRepsOne
import Derived.Test.YtkgkdppjopilmaaWInv
import Derived.Test.YtkgkdppjopilmaaWInvWords
import Derived.Test.YtkgkdppjopilmaaWGuard
import Derived.Test.YtkgkdppjopilmaaWNEv
import Derived.Test.YtkgkdppjopilmaaWMore
import Derived.Test.YtkgkdppjopilmaaBuf10
import Derived.Test.YtkgkdppjopilmaaGiven1
namespace Go.Proofs.Ytkgkdppjopilmaa.Given
open Go.RowKit Go.Proofs.YtkgkdppjopilmaaW.PrintWords Go.Proofs.YtkgkdppjopilmaaW.PrintLast Go.Proofs.YtkgkdppjopilmaaW.PrintMore Go.Proofs.Ytkgkdppjopilmaa.Leb

def dwarf_UnitLength.f (l0 : List Int) (a1 : Bool) : Option (Int × Bool × Int × Bool) := if l0.length < 2147483648 ∧ okBytes l0 = true then some (Buf.unitOf a1 l0) else none
theorem dwarf_UnitLength.calls (A0 : Option Addr) (c0 : Nat) (l0 : List Int) (a1 : Bool) (r1 : Int) (r2 : Bool) (r3 : Int) (r4 : Bool) (w : World) (hr0 : Kd.C (Kd.int .u8) w A0 l0.length l0) (hc0 : l0.length ≤ c0) (h : dwarf_UnitLength.f l0 a1 = some (r1, r2, r3, r4)) :
    Calls Try.prog 35 #[.slice A0 l0.length c0, .bool a1] w fun e w' => e = .returned (.tuple #[.int .u32 r1, .bool r2, .int .i64 r3, .bool r4]) ∧ Below w.heap.size w w' := by
  unfold dwarf_UnitLength.f at h
  by_cases hl : l0.length < 2147483648 ∧ okBytes l0 = true
  · rw [if_pos hl] at h
    have e := Option.some.inj h
    have hc := Buf.UnitLength_calls A0 c0 l0 a1 w hl.1 (bytes_of_ok hl.2) hr0 hc0
    rw [e] at hc
    exact hc
  · rw [if_neg hl] at h
    cases h
end Go.Proofs.Ytkgkdppjopilmaa.Given
