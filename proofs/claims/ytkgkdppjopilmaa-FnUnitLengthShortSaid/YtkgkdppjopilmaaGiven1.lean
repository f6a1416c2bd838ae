/- Contracts of functions that the print leaves, proved by hand: dwarf.Unsigned, dwarf.Signed, dwarf.Text. -/
import Derived.Test.YtkgkdppjopilmaaProg
import Derived.Below
import Derived.Deep.Draws
import Derived.Deep.AppendLies
import Derived.Maps.AppendAt
import Derived.OwnWalk
import Derived.Laws.BytesArg
import Derived.Laws.MakeOwn
import Derived.Laws.OwnMore
import Derived.Deep.OwnRows
import Derived.Tactics
import Derived.Lib.ConvBytes
import Derived.Laws.Slices
import Derived.WalkKit
import Derived.KernelRfl
import Derived.RowKit3
import Derived.Deep.LoopGhost
import Derived.Deep.QuietTactic
import Derived.BigQuiet
import Derived.WideLaws
import Derived.Deep.DeepCutAuto
import Derived.Deep.CutBlock
import Derived.Deep.RegionHeld3
import Derived.Laws.Rows
import Derived.Lib.AppendStr
import Derived.ArgAppend
import Derived.Laws.IdiomCopy
import Derived.OrdersHeld
import Derived.Laws.BitsLemmas
import Derived.RowKit
import Derived.Test.YtkgkdppjopilmaaWWords
import Derived.Test.YtkgkdppjopilmaaWLast
import Derived.Test.YtkgkdppjopilmaaWTab
import Derived.Test.YtkgkdppjopilmaaWFour
import Derived.Test.YtkgkdppjopilmaaWQPut
import Derived.Test.YtkgkdppjopilmaaWApart
import Derived.Test.YtkgkdppjopilmaaWArr
import Derived.Test.YtkgkdppjopilmaaWZeros
import Derived.Test.YtkgkdppjopilmaaWFoot
import Derived.Test.YtkgkdppjopilmaaWKept
import Derived.Test.YtkgkdppjopilmaaWShare
import Derived.Test.YtkgkdppjopilmaaWN
import Derived.Test.YtkgkdppjopilmaaWFootNe
import Derived.Test.YtkgkdppjopilmaaWAt
import Derived.Test.YtkgkdppjopilmaaWEqStruct
import Derived.Test.YtkgkdppjopilmaaWRepsOne
import Derived.Test.YtkgkdppjopilmaaWInv
import Derived.Test.YtkgkdppjopilmaaWInvWords
import Derived.Test.YtkgkdppjopilmaaWGuard
import Derived.Test.YtkgkdppjopilmaaWNEv
import Derived.Test.YtkgkdppjopilmaaWMore
import Derived.Test.YtkgkdppjopilmaaBuf4
namespace Go.Proofs.Ytkgkdppjopilmaa.Given
open Go.RowKit Go.Proofs.YtkgkdppjopilmaaW.PrintWords Go.Proofs.YtkgkdppjopilmaaW.PrintLast Go.Proofs.YtkgkdppjopilmaaW.PrintMore Go.Proofs.Ytkgkdppjopilmaa.Leb

def okBytes (l : List Int) : Bool := l.all fun b => decide (0 ≤ b) && decide (b < 256)
theorem bytes_of_ok {l : List Int} (h : okBytes l = true) : Bytes l := by
  intro b hb
  have := List.all_eq_true.1 h b hb
  simp only [Bool.and_eq_true, decide_eq_true_eq] at this
  exact this
theorem ok_of_bytes {l : List Int} (h : Bytes l) : okBytes l = true := by
  refine List.all_eq_true.2 (fun b hb => ?_)
  simp only [Bool.and_eq_true, decide_eq_true_eq]
  exact h b hb

def dwarf_Unsigned.f (l0 : List Int) : Option (Int × Int × Bool) := if l0.length < 2147483648 ∧ okBytes l0 = true then some (unsignedOf l0) else none
theorem dwarf_Unsigned.calls (A0 : Option Addr) (c0 : Nat) (l0 : List Int) (r1 : Int) (r2 : Int) (r3 : Bool) (w : World) (hr0 : Kd.C (Kd.int .u8) w A0 l0.length l0) (hc0 : l0.length ≤ c0) (h : dwarf_Unsigned.f l0 = some (r1, r2, r3)) :
    Calls Try.prog 32 #[.slice A0 l0.length c0] w fun e w' => e = .returned (.tuple #[.int .u64 r1, .int .i64 r2, .bool r3]) ∧ Below w.heap.size w w' := by
  unfold dwarf_Unsigned.f at h
  by_cases hl : l0.length < 2147483648 ∧ okBytes l0 = true
  · rw [if_pos hl] at h
    have e := Option.some.inj h
    have hc := Buf.Unsigned_calls A0 c0 l0 w hl.1 (bytes_of_ok hl.2) hr0 hc0
    rw [e] at hc
    exact hc
  · rw [if_neg hl] at h
    cases h

def dwarf_Signed.f (l0 : List Int) : Option (Int × Int × Bool) := if l0.length < 2147483648 ∧ okBytes l0 = true then some (signedOf l0) else none
theorem dwarf_Signed.calls (A0 : Option Addr) (c0 : Nat) (l0 : List Int) (r1 : Int) (r2 : Int) (r3 : Bool) (w : World) (hr0 : Kd.C (Kd.int .u8) w A0 l0.length l0) (hc0 : l0.length ≤ c0) (h : dwarf_Signed.f l0 = some (r1, r2, r3)) :
    Calls Try.prog 33 #[.slice A0 l0.length c0] w fun e w' => e = .returned (.tuple #[.int .i64 r1, .int .i64 r2, .bool r3]) ∧ Below w.heap.size w w' := by
  unfold dwarf_Signed.f at h
  by_cases hl : l0.length < 2147483648 ∧ okBytes l0 = true
  · rw [if_pos hl] at h
    have e := Option.some.inj h
    have hc := Buf.Signed_calls A0 c0 l0 w hl.1 (bytes_of_ok hl.2) hr0 hc0
    rw [e] at hc
    exact hc
  · rw [if_neg hl] at h
    cases h

def dwarf_Text.f (l0 : List Int) : Option (ByteArray × Int × Bool) := if l0.length < 2147483648 ∧ okBytes l0 = true then some (Buf.textOf l0) else none
theorem dwarf_Text.calls (A0 : Option Addr) (c0 : Nat) (l0 : List Int) (r1 : ByteArray) (r2 : Int) (r3 : Bool) (w : World) (hr0 : Kd.C (Kd.int .u8) w A0 l0.length l0) (hc0 : l0.length ≤ c0) (h : dwarf_Text.f l0 = some (r1, r2, r3)) :
    Calls Try.prog 31 #[.slice A0 l0.length c0] w fun e w' => e = .returned (.tuple #[.string r1, .int .i64 r2, .bool r3]) ∧ Below w.heap.size w w' := by
  unfold dwarf_Text.f at h
  by_cases hl : l0.length < 2147483648 ∧ okBytes l0 = true
  · rw [if_pos hl] at h
    have e := Option.some.inj h
    have hc := Buf.Text_calls A0 c0 l0 w hl.1 (bytes_of_ok hl.2) hr0 hc0
    rw [e] at hc
    exact hc
  · rw [if_neg hl] at h
    cases h
end Go.Proofs.Ytkgkdppjopilmaa.Given
