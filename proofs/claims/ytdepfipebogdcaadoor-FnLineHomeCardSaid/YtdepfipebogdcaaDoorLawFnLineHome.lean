-- Printed by a program of this session (mkprint.py over the kit's print.py)
import Derived.Test.YtdepfipebogdcaaDoorRows
import Derived.Test.YtdepfipebogdcaaDoorPLlawsFnLineHome
import Derived.Test.YtdepfipebogdcaaDoorPureFnLineHome
import Derived.Test.YtdepfipebogdcaaDoorTie
import Derived.Test.YtdepfipebogdcaaDoorCards
import Derived.Test.YtdepfipebogdcaaDoorHd
import Derived.OpenVars
import Derived.SevenTiedAt
import Derived.Lay
import Derived.WalkKit
import Derived.ProofKit
import Derived.OpenShut
import Derived.ShutString
import Derived.ChangeOld
import Derived.Below
import Derived.SizedLaws
namespace Go.Proofs.YtdepfipebogdcaaDoor.fnLineHome
open Go.ChangeShapes Go.WideShapes Go.ChangeAt Go.RowKit
open Go.ChangeMaps (open_string shut_string)
set_option linter.unusedVariables false
theorem laidOut : laidOutB Tryd.prog = true := by kernel_rfl
theorem own : ownKnob Tryd.prog.godebug = none := by kernel_rfl
set_option maxRecDepth 100000 in
theorem lifted (os : Os) (started : os.Started) (H : Type) (enc : TypeId × Value → H) :
    ReturnsInHanded {} Tryd.checked os 6 .any (fun w args => (Rows.fnLineHomeSpec.pre enc Tryd.prog Tryd.f6 Rows.fnLineHomeRow.domain false w args ∧ laidMetH Tryd.prog Rows.fnLineHomeRow.laid w) ∧ sizedMet enc Tryd.prog Tryd.f6 (OpenSpec.ofChange Rows.fnLineHomeSpec) false w args) (Rows.fnLineHomeSpec.post enc Tryd.prog Tryd.f6 false true false false) := by
  refine returnsInHanded_of_change_and (C := Tryd.checked) (X := fun w _ => laidMetH Tryd.prog Rows.fnLineHomeRow.laid w) (fun _ _ _ hh h => h.of_heap hh) own started (by kernel_rfl) Tryd.func6
    (ChangeSpec.witness_shaped (enc := enc) (C := Tryd.checked) (os := os) (X := fun w _ => laidMetH Tryd.prog Rows.fnLineHomeRow.laid w) false (Laid.wit os) #[.string ByteArray.empty, .string ByteArray.empty] 8 (Laid.wit_os os) (Laid.wit_shaped os _) (by kernel_rfl) (by kernel_rfl) (by kernel_rfl) (Laid.wit_met os _)) ?_
  intro W base args ds gs before hval0 hW hcnd hsz0 hL _
  have hsz : (DataW.weightsEach Tryd.prog (Tryd.f6.params.toList ++ Rows.fnLineHomeSpec.plain.varTypes Tryd.prog) (ds ++ gs)).all (· ≤ reachBytes) = true := hsz0
  have hval : ∀ (j : Nat) t v, Tryd.f6.params[j]? = some t → args[j]? = some v → Value.okWide Tryd.prog W .any base t v := hval0
  have hW' := hW
  obtain ⟨p, q, hA0, hV, rfl, hfz, hnd⟩ := hW
  have hA : DataW.TrodAll enc Tryd.prog W 0 (fun _ => true) true Tryd.f6.params.toList args.toList ds p := hA0
  rw [Tryd.params6] at hA hval hsz
  obtain ⟨v0, vs0, d0, ds0, p0, q0, hargs, rfl, rfl, h0, r0⟩ := trodAll_cons hA
  obtain ⟨v1, vs1, d1, ds1, p1, q1, rfl, rfl, rfl, h1, r1⟩ := trodAll_cons r0
  obtain ⟨rfl, rfl, rfl⟩ := trodAll_nil r1
  obtain rfl : args = #[v0, v1] := by cases args; simp_all
  obtain ⟨g1, g2, rfl⟩ : ∃ g1 g2, gs = [g1, g2] := by
    match gs, hV with
    | [], h => exact h.elim
    | [_], ⟨_, _, _, _, _, _, _, _, _, _, h, _⟩ => exact h.elim
    | [_, _], _ => exact ⟨_, _, rfl⟩
    | _ :: _ :: _ :: _, ⟨_, _, _, _, _, _, _, _, _, _, ⟨_, _, _, _, _, _, _, _, _, _, h, _⟩, _⟩ => exact h.elim
  obtain ⟨a0, rfl, rfl, rfl, y0⟩ := open_string Tryd.underlying9 (hval 0 9 v0 rfl rfl) h0
  have w0 : a0.size ≤ 140737488351232 := by
    have z := sized_string hsz (j := 0) (t := 9) rfl rfl
    rw [Array.length_toList] at z
    exact z
  obtain ⟨a1, rfl, rfl, rfl, y1⟩ := open_string Tryd.underlying9 (hval 1 9 v1 rfl rfl) h1
  have w1 : a1.size ≤ 140737488351232 := by
    have z := sized_string hsz (j := 1) (t := 9) rfl rfl
    rw [Array.length_toList] at z
    exact z
  clear hA0 hval0 hsz0 hsz
  refine (PPl.laws_FnLineHome.walk Pure.FnLineHome a0 a1 W w0 w1 (Laid.glob_of hL)).mono fun e W' ⟨he, bel⟩ => ?_
  subst he
  exact ⟨_, rfl, _, _, _, [], _, _, hW', trodAll_mk1 (shut_bool Tryd.underlying4 _), (trodAll_cons_mk (shut_string Tryd.underlying9 y0) (trodAll_cons_mk (shut_string Tryd.underlying9 y1) trodAll_mk0)), Below.trodVars laidOut bel (by kernel_rfl) hV, bel.frame _, fun h => by cases h⟩
theorem over : Rows.fnLineHomeRow.holds Tryd.pinned (OpenSpec.ofChange Rows.fnLineHomeSpec) :=
  OpenClaim.holds_of_wide 6 Tryd.f6 rfl rfl rfl rfl rfl rfl rfl ⟨rfl, rfl, rfl, rfl, rfl⟩ rfl rfl rfl rfl rfl (by kernel_rfl) Tryd.func6 (by kernel_rfl)
    (of_decide_eq_true (by kernel_rfl)) (by unfold Func.isWrapper; first | (rw [if_pos (by decide +kernel)]; kernel_rfl) | (rw [if_neg (by decide +kernel)]; exact ⟨rfl, rfl⟩))
    (fun os started H enc _ => lifted os started H enc)
theorem proved : Rows.FnLineHomeSaid := over
theorem card : Rows.FnLineHomeCardSaid :=
  Claim7.holds_tied_plain_at .later [] [.data, .sentinel, .data, .data, .mapped, .sentinel, .pinned, .pinned] true (true, "e0c689635ce12fd854912794cdc4e67a295743476fcf3a9a6a4f25eb702a33d2") true over (fun _ h => by cases h) (by kernel_rfl) (fun _ h => by cases h) fnLineHome_row_tie rfl ⟨rfl, rfl⟩ (by kernel_rfl) rfl
    (fun f fn hf hfn => by
      obtain rfl : f = 6 := Option.some.inj ((show Tryd.prog.funcNamed "loop.example/pub-g03025/laws.FnLineHome" = some 6 by kernel_rfl).symm.trans hf) |>.symm
      obtain rfl : fn = Tryd.f6 := (Option.some.inj (Tryd.func6.symm.trans hfn)).symm
      exact ⟨by kernel_rfl, fun j t ht => by
        rw [Tryd.params6] at ht
        have hm : t ∈ [9, 9] := by simpa using Array.mem_of_getElem? ht
        have hall : ([9, 9].all fun u => !Tryd.prog.wantsStandIn u) = true := by kernel_rfl
        exact (show Tryd.prog.wantsStandIn t = false by simpa using List.all_eq_true.1 hall t hm)⟩)
    (by kernel_rfl)
#print axioms card
end Go.Proofs.YtdepfipebogdcaaDoor.fnLineHome
namespace Go.Proofs.YtdepfipebogdcaaDoor
/-- The row, under a short name, for the claim. -/
theorem fnLineHome_holds : Rows.FnLineHomeCardSaid := fnLineHome.card
end Go.Proofs.YtdepfipebogdcaaDoor
