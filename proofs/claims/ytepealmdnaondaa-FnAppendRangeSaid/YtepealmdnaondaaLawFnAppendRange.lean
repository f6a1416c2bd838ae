-- Printed by a program of this session (mkprint.py over the kit's print.py)
import Derived.Test.YtepealmdnaondaaRows
import Derived.Test.YtepealmdnaondaaPAllx3
import Derived.Test.YtepealmdnaondaaPureFnAppendRange
import Derived.Test.YtepealmdnaondaaOpens
import Derived.WalkKit
import Derived.ProofKit
import Derived.OpenShut
import Derived.ShutString
import Derived.ChangeOld
import Derived.Below
import Derived.SizedLaws
namespace Go.Proofs.Ytepealmdnaondaa.fnAppendRange
open Go.ChangeShapes Go.WideShapes Go.ChangeAt Go.RowKit Go.Proofs.YtepealmdnaondaaW.PrintWords Go.Proofs.YtepealmdnaondaaW.PrintLast Go.Proofs.YtepealmdnaondaaW.PrintMore Go.Proofs.Ytepealmdnaondaa.PAll Go.Proofs.Ytepealmdnaondaa.Opens
open Go.ChangeMaps (open_string shut_string)
set_option linter.unusedVariables false
theorem own : ownKnob Try.prog.godebug = none := by kernel_rfl
theorem laidOut : laidOutB Try.prog = true := by kernel_rfl
set_option maxRecDepth 100000 in
set_option maxHeartbeats 1000000 in
theorem lifted (os : Os) (started : os.Started) (H : Type) (enc : TypeId × Value → H) :
    ReturnsInHanded {} Try.checked os 3 .any (Rows.fnAppendRangeSpec.pre6 enc Try.prog Try.f3 Rows.fnAppendRangeRow.domain false) (Rows.fnAppendRangeSpec.post enc Try.prog Try.f3 false true false false) := by
  refine returnsInHanded_of_change_sized (C := Try.checked) own started (by kernel_rfl) Try.func3
    (ChangeSpec.witness6 (enc := enc) (C := Try.checked) false ⟨#[], #[.slice none 0 0, (.agg #[(.int .i64 0), (.int .i64 0)])], []⟩ 8 (by kernel_rfl) (by kernel_rfl) (by kernel_rfl) (by kernel_rfl)) ?_
  intro W base args ds gs before hval0 hW hcnd hsz0 _
  have hval : ∀ (j : Nat) t v, Try.f3.params[j]? = some t → args[j]? = some v → Value.okWide Try.prog W .any base t v := hval0
  have hW' := hW
  obtain ⟨p, q, hA0, hV, rfl, hfz, hnd⟩ := hW
  have hA : DataW.TrodAll enc Try.prog W 0 (fun _ => true) true Try.f3.params.toList args.toList ds p := hA0
  rw [Try.params3] at hA hval
  obtain ⟨v0, vs0, d0, ds0, p0, q0, hargs, rfl, rfl, h0, r0⟩ := trodAll_cons hA
  obtain ⟨v1, vs1, d1, ds1, p1, q1, rfl, rfl, rfl, h1, r1⟩ := trodAll_cons r0
  obtain ⟨rfl, rfl, rfl⟩ := trodAll_nil r1
  obtain rfl : args = #[v0, v1] := by cases args; simp_all
  obtain ⟨rfl, rfl⟩ := trodVars_none hV
  obtain ⟨A0, len0, c0, rfl⟩ := okWide_slice Try.underlying22 (hval 0 22 v0 rfl rfl)
  have k0 := h0
  have lt0 : ∀ x ∈ p0, x.block < W.heap.size := by obtain ⟨m, hm⟩ := k0; exact DataW.trod_lt m _ _ _ hm
  obtain ⟨l0, rfl, hc0, hr0, wl0⟩ : ∃ l : List (S24), len0 = l.length ∧ l.length ≤ c0 ∧ Kd.C k24 W A0 l.length l ∧ ((fun l => l.length ≤ maxLen ∧ ∀ x ∈ l, wf24 x) l) := by
    obtain ⟨fuel, hf⟩ := h0
    obtain ⟨v, ⟨A, c, hcs, hc, hC⟩, hw⟩ := (show Opens Try.prog 22 (Kd.slice 24 k24) (fun l => l.length ≤ maxLen ∧ ∀ x ∈ l, wf24 x) from (opens_slice Try.underlying22 (by kernel_rfl) opens24)).2 _ _ _ _ _ _ _ _ _ hf
    simp [Value.cells] at hcs
    obtain ⟨rfl, rfl, rfl⟩ := hcs
    exact ⟨v, rfl, hc, hC, hw⟩
  obtain ⟨cs1, rfl, hz1⟩ := okWide_struct Try.underlying24 (hval 1 24 v1 rfl rfl)
  have k1 := h1
  have lt1 : ∀ x ∈ p1, x.block < W.heap.size := by obtain ⟨m, hm⟩ := k1; exact DataW.trod_lt m _ _ _ hm
  obtain ⟨a1_0, a1_1, rfl, w1_0, w1_1⟩ : ∃ (a1_0 : Int) (a1_1 : Int), cs1 = #[.int .i64 a1_0, .int .i64 a1_1] ∧ ((Lit.int .i64 a1_0).wf = true) ∧ ((Lit.int .i64 a1_1).wf = true) := by
    obtain ⟨fuel, hf⟩ := h1
    obtain ⟨v, hK, hw⟩ := opens24.2 _ _ _ _ _ _ _ _ _ hf
    obtain ⟨y_0, y_1⟩ := v
    obtain ⟨cl1⟩ := cs1
    generalize hcl : (Value.agg ⟨cl1⟩).cells.toList = cl at hK
    have hcl' : cl1 = cl := hcl
    clear hf hcl
    obtain ⟨_, _, rfl, rfl, rfl⟩ := hK
    obtain ⟨w_0, w_1⟩ := hw
    subst hcl'
    exact ⟨y_0, y_1, rfl, w_0, w_1⟩
  clear hA0 hval0 hsz0
  obtain ⟨k, h⟩ := Pure.FnAppendRange l0 a1_0 a1_1 wl0 w1_0 w1_1
  refine (laws_FnAppendRange.calls k A0 c0 l0 a1_0 a1_1 true W hr0 hc0 h).mono fun e W' hpost => ?_
  obtain ⟨rfl, bel0⟩ := hpost
  have bel : Below W.heap.size W W' := bel0
  exact ⟨_, rfl, _, _, _, [], _, [], hW', trodAll_mk1 (shut_bool Try.underlying4 _), (trodAll_cons_mk (Below.trod laidOut (by kernel_rfl) (of_decide_eq_true (by kernel_rfl)) k0 bel lt0) (trodAll_cons_mk (Below.trod laidOut (by kernel_rfl) (of_decide_eq_true (by kernel_rfl)) k1 bel lt1) trodAll_mk0)), rfl, bel.frame _, fun h => by cases h⟩
theorem over : Rows.fnAppendRangeRow.holds Try.pinned (OpenSpec.ofChange Rows.fnAppendRangeSpec) :=
  OpenClaim.holds_of_wide 3 Try.f3 rfl rfl rfl rfl rfl rfl rfl ⟨rfl, rfl, rfl, rfl, rfl⟩ rfl rfl rfl rfl rfl (by kernel_rfl) Try.func3 (by kernel_rfl)
    (of_decide_eq_true (by kernel_rfl)) (by unfold Func.isWrapper; first | (rw [if_pos (by decide +kernel)]; kernel_rfl) | (rw [if_neg (by decide +kernel)]; exact ⟨rfl, rfl⟩))
    (fun os started H enc _ => lifted os started H enc)
theorem proved : Rows.FnAppendRangeSaid := over
#print axioms proved
end Go.Proofs.Ytepealmdnaondaa.fnAppendRange
namespace Go.Proofs.Ytepealmdnaondaa
/-- The row, under a short name, for the claim. -/
theorem fnAppendRange_holds : Rows.FnAppendRangeSaid := fnAppendRange.proved
end Go.Proofs.Ytepealmdnaondaa
