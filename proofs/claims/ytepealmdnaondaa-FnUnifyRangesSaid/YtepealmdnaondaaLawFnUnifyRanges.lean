-- Printed by a program of this session (mkprint.py over the kit's print.py)
import Derived.Test.YtepealmdnaondaaRows
import Derived.Test.YtepealmdnaondaaPAllx8
import Derived.Test.YtepealmdnaondaaPureFnUnifyRanges
import Derived.Test.YtepealmdnaondaaOpens
import Derived.WalkKit
import Derived.ProofKit
import Derived.OpenShut
import Derived.ShutString
import Derived.ChangeOld
import Derived.Below
import Derived.SizedLaws
namespace Go.Proofs.Ytepealmdnaondaa.fnUnifyRanges
open Go.ChangeShapes Go.WideShapes Go.ChangeAt Go.RowKit Go.Proofs.YtepealmdnaondaaW.PrintWords Go.Proofs.YtepealmdnaondaaW.PrintLast Go.Proofs.YtepealmdnaondaaW.PrintMore Go.Proofs.Ytepealmdnaondaa.PAll Go.Proofs.Ytepealmdnaondaa.Opens
open Go.ChangeMaps (open_string shut_string)
set_option linter.unusedVariables false
theorem own : ownKnob Try.prog.godebug = none := by kernel_rfl
theorem laidOut : laidOutB Try.prog = true := by kernel_rfl
set_option maxRecDepth 100000 in
set_option maxHeartbeats 1000000 in
theorem lifted (os : Os) (started : os.Started) (H : Type) (enc : TypeId × Value → H) :
    ReturnsInHanded {} Try.checked os 6 .any (Rows.fnUnifyRangesSpec.pre6 enc Try.prog Try.f6 Rows.fnUnifyRangesRow.domain false) (Rows.fnUnifyRangesSpec.post enc Try.prog Try.f6 false true false false) := by
  refine returnsInHanded_of_change_sized (C := Try.checked) own started (by kernel_rfl) Try.func6
    (ChangeSpec.witness6 (enc := enc) (C := Try.checked) false ⟨#[], #[.slice none 0 0, .slice none 0 0], []⟩ 8 (by kernel_rfl) (by kernel_rfl) (by kernel_rfl) (by kernel_rfl)) ?_
  intro W base args ds gs before hval0 hW hcnd hsz0 _
  have hval : ∀ (j : Nat) t v, Try.f6.params[j]? = some t → args[j]? = some v → Value.okWide Try.prog W .any base t v := hval0
  have hW' := hW
  obtain ⟨p, q, hA0, hV, rfl, hfz, hnd⟩ := hW
  have hA : DataW.TrodAll enc Try.prog W 0 (fun _ => true) true Try.f6.params.toList args.toList ds p := hA0
  rw [Try.params6] at hA hval
  obtain ⟨v0, vs0, d0, ds0, p0, q0, hargs, rfl, rfl, h0, r0⟩ := trodAll_cons hA
  obtain ⟨v1, vs1, d1, ds1, p1, q1, rfl, rfl, rfl, h1, r1⟩ := trodAll_cons r0
  obtain ⟨rfl, rfl, rfl⟩ := trodAll_nil r1
  obtain rfl : args = #[v0, v1] := by cases args; simp_all
  obtain ⟨rfl, rfl⟩ := trodVars_none hV
  obtain ⟨A0, len0, c0, rfl⟩ := okWide_slice Try.underlying22 (hval 0 22 v0 rfl rfl)
  have k0 := h0
  have lt0 : ∀ x ∈ p0, x.block < W.heap.size := by obtain ⟨m, hm⟩ := k0; exact DataW.trod_lt m _ _ _ hm
  obtain ⟨l0, rfl, hc0, hr0, wl0⟩ : ∃ l : List (S24), len0 = l.length ∧ l.length ≤ c0 ∧ Kd.C k24 W A0 l.length l ∧ ((fun l => l.length ≤ maxLen ∧ ∀ x ∈ l, wf24 x) l) := by
    obtain ⟨fuel, hf⟩ := h0
    obtain ⟨v, ⟨A, c, hcs, hc, hC⟩, hw⟩ := (show Opens Try.prog 22 (Kd.slice 24 k24) (fun l => l.length ≤ maxLen ∧ ∀ x ∈ l, wf24 x) from (opens_slice Try.underlying22 (by kernel_rfl) opens24)).2 _ _ _ _ _ _ _ _ _ hf
    simp [Value.cells] at hcs
    obtain ⟨rfl, rfl, rfl⟩ := hcs
    exact ⟨v, rfl, hc, hC, hw⟩
  obtain ⟨A1, len1, c1, rfl⟩ := okWide_slice Try.underlying22 (hval 1 22 v1 rfl rfl)
  have k1 := h1
  have lt1 : ∀ x ∈ p1, x.block < W.heap.size := by obtain ⟨m, hm⟩ := k1; exact DataW.trod_lt m _ _ _ hm
  obtain ⟨l1, rfl, hc1, hr1, wl1⟩ : ∃ l : List (S24), len1 = l.length ∧ l.length ≤ c1 ∧ Kd.C k24 W A1 l.length l ∧ ((fun l => l.length ≤ maxLen ∧ ∀ x ∈ l, wf24 x) l) := by
    obtain ⟨fuel, hf⟩ := h1
    obtain ⟨v, ⟨A, c, hcs, hc, hC⟩, hw⟩ := (show Opens Try.prog 22 (Kd.slice 24 k24) (fun l => l.length ≤ maxLen ∧ ∀ x ∈ l, wf24 x) from (opens_slice Try.underlying22 (by kernel_rfl) opens24)).2 _ _ _ _ _ _ _ _ _ hf
    simp [Value.cells] at hcs
    obtain ⟨rfl, rfl, rfl⟩ := hcs
    exact ⟨v, rfl, hc, hC, hw⟩
  clear hA0 hval0 hsz0
  obtain ⟨k, h⟩ := Pure.FnUnifyRanges l0 l1 wl0 wl1
  refine (laws_FnUnifyRanges.calls k A0 c0 l0 A1 c1 l1 true W hr0 hc0 hr1 hc1 h).mono fun e W' hpost => ?_
  obtain ⟨rfl, bel0⟩ := hpost
  have bel : Below W.heap.size W W' := bel0
  exact ⟨_, rfl, _, _, _, [], _, [], hW', trodAll_mk1 (shut_bool Try.underlying4 _), (trodAll_cons_mk (Below.trod laidOut (by kernel_rfl) (of_decide_eq_true (by kernel_rfl)) k0 bel lt0) (trodAll_cons_mk (Below.trod laidOut (by kernel_rfl) (of_decide_eq_true (by kernel_rfl)) k1 bel lt1) trodAll_mk0)), rfl, bel.frame _, fun h => by cases h⟩
theorem over : Rows.fnUnifyRangesRow.holds Try.pinned (OpenSpec.ofChange Rows.fnUnifyRangesSpec) :=
  OpenClaim.holds_of_wide 6 Try.f6 rfl rfl rfl rfl rfl rfl rfl ⟨rfl, rfl, rfl, rfl, rfl⟩ rfl rfl rfl rfl rfl (by kernel_rfl) Try.func6 (by kernel_rfl)
    (of_decide_eq_true (by kernel_rfl)) (by unfold Func.isWrapper; first | (rw [if_pos (by decide +kernel)]; kernel_rfl) | (rw [if_neg (by decide +kernel)]; exact ⟨rfl, rfl⟩))
    (fun os started H enc _ => lifted os started H enc)
theorem proved : Rows.FnUnifyRangesSaid := over
#print axioms proved
end Go.Proofs.Ytepealmdnaondaa.fnUnifyRanges
namespace Go.Proofs.Ytepealmdnaondaa
/-- The row, under a short name, for the claim. -/
theorem fnUnifyRanges_holds : Rows.FnUnifyRangesSaid := fnUnifyRanges.proved
end Go.Proofs.Ytepealmdnaondaa
