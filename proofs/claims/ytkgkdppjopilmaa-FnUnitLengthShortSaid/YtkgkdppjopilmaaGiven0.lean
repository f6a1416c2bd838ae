/- Contracts of functions that the print leaves, proved by hand. -/
import Derived.Test.YtkgkdppjopilmaaProg
import Derived.Below
import Derived.Deep.Draws
import Derived.Deep.AppendLies
import Derived.Maps.AppendAt
import Derived.OwnWalk
import Derived.Laws.BytesArg
import Derived.Laws.MakeOwn
import Derived.Laws.OwnMore
import Derived.Deep.OwnRows
import Derived.Tactics
import Derived.Lib.ConvBytes
import Derived.Laws.Slices
import Derived.WalkKit
import Derived.KernelRfl
import Derived.RowKit3
import Derived.Deep.LoopGhost
import Derived.Deep.QuietTactic
import Derived.BigQuiet
import Derived.WideLaws
import Derived.Deep.DeepCutAuto
import Derived.Deep.CutBlock
import Derived.Deep.RegionHeld3
import Derived.Laws.Rows
import Derived.Lib.AppendStr
import Derived.ArgAppend
import Derived.Laws.IdiomCopy
import Derived.OrdersHeld
import Derived.Laws.BitsLemmas
import Derived.RowKit
import Derived.Test.YtkgkdppjopilmaaWWords
import Derived.Test.YtkgkdppjopilmaaWLast
import Derived.Test.YtkgkdppjopilmaaWTab
import Derived.Test.YtkgkdppjopilmaaWFour
import Derived.Test.YtkgkdppjopilmaaWQPut
import Derived.Test.YtkgkdppjopilmaaWApart
import Derived.Test.YtkgkdppjopilmaaWArr
import Derived.Test.YtkgkdppjopilmaaWZeros
import Derived.Test.YtkgkdppjopilmaaWFoot
import Derived.Test.YtkgkdppjopilmaaWKept
import Derived.Test.YtkgkdppjopilmaaWShare
import Derived.Test.YtkgkdppjopilmaaWN
import Derived.Test.YtkgkdppjopilmaaWFootNe
import Derived.Test.YtkgkdppjopilmaaWAt
import Derived.Test.YtkgkdppjopilmaaWEqStruct
import Derived.Test.YtkgkdppjopilmaaWRepsOne
import Derived.Test.YtkgkdppjopilmaaWInv
import Derived.Test.YtkgkdppjopilmaaWInvWords
import Derived.Test.YtkgkdppjopilmaaWGuard
import Derived.Test.YtkgkdppjopilmaaWNEv
import Derived.Test.YtkgkdppjopilmaaWMore
namespace Go.Proofs.Ytkgkdppjopilmaa.Given
open Go.RowKit Go.Proofs.YtkgkdppjopilmaaW.PrintWords Go.Proofs.YtkgkdppjopilmaaW.PrintLast Go.Proofs.YtkgkdppjopilmaaW.PrintMore

theorem info5 : (Try.prog.info? 5).map (fun i => (i.zero, i.size, i.bytes)) = some (some (.int .u8 0), 1, 1) := by kernel_rfl

def impl_copied.f (l0 : List Int) : Option (List Int) := if l0.length < 140737488355328 then some l0 else none

theorem impl_copied.calls (A0 : Option Addr) (c0 : Nat) (l0 : List Int) (r : List Int) (w : World) (hr0 : Kd.C (Kd.int .u8) w A0 l0.length l0) (_hc0 : l0.length ≤ c0) (h : impl_copied.f l0 = some r) :
    Calls Try.prog 28 #[.slice A0 l0.length c0] w fun e w' => ∃ v0_ : Value, e = .returned (v0_) ∧ Kd.R (Kd.int .u8) 5 w' w.heap.size (fun _ => True) v0_ r ∧ Below w.heap.size w w' := by
  unfold impl_copied.f at h
  have HR0 := Aside0.mk hr0
  clear hr0
  by_cases c1 : l0.length < 140737488355328
  · rw [if_pos c1] at h
    obtain rfl := Option.some.inj h
    have HL := Aside0.mk c1
    clear h c1 
    go_enter Try.func28, Try.ntmps28
    go_wp2_with (first | ((with_reducible refine gate_builtin (b := .append) (xs := #[.const (.slice none 0 0), .tmp 3]) rfl ?_); at_builtin; refine Kd.R_append_rows (Kd.int .u8) (w0 := w) w.heap.size rfl (.const (.slice none 0 0)) (.tmp 3) 22 5 (.int .u8 0) 1 rfl Try.underlying22 info5 rfl (by decide) (by omega) (.slice none 0 0) [] l0 _ _ _ (fun _ => True) (fun _ => False) rfl rfl ?aO ?aR (fun _ _ h => h) (fun _ h => h.elim) ?aF ?aB ?aS ?aL ?_; (case aR => exact HR0.out); (case aB => exact Below.refl _ _); (case aF => exact (fun _ _ => trivial)); (case aO => exact Kd.R_nil _ _ _ _ _); (case aS => exact Nat.le_refl _); (case aL => have := HL.out; simp; omega); intro v1 w1 ho hb hg hat; rw [List.nil_append] at ho; have HO := Aside0.mk ho; have HB := Aside0.mk hb; clear ho hb hg hat))
    go_ret
    exact ⟨_, rfl, HO.out, HB.out⟩
  · rw [if_neg c1] at h
    exact absurd h (by simp)


end Go.Proofs.Ytkgkdppjopilmaa.Given
