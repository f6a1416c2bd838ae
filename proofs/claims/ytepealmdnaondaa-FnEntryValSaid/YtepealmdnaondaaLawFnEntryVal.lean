/- Val and AttrField tell the value of the field with an attribute, or none (fields of different attributes, of numbers and texts). No conditions beyond the statement's own. -/
import Derived.Test.YtepealmdnaondaaRows
import Derived.Test.YtepealmdnaondaaEvL
import Derived.Test.YtepealmdnaondaaOpens
import Derived.WalkKit
import Derived.ProofKit
import Derived.OpenShut
import Derived.ShutString
import Derived.ChangeOld
import Derived.Below
import Derived.SizedLaws
namespace Go.Proofs.Ytepealmdnaondaa.fnEntryVal
open Go.ChangeShapes Go.WideShapes Go.ChangeAt Go.RowKit Go.Proofs.YtepealmdnaondaaW.PrintWords Go.Proofs.YtepealmdnaondaaW.PrintLast Go.Proofs.YtepealmdnaondaaW.PrintMore Go.Proofs.Ytepealmdnaondaa.PEv Go.Proofs.Ytepealmdnaondaa.Opens
open Go.ChangeMaps (open_string shut_string)
set_option linter.unusedVariables false
def wf43 (x : S43) : Prop := (Lit.int .i64 x.f0).wf = true ∧ (Lit.int .i64 x.f1).wf = true ∧ (Lit.int .u64 x.f2).wf = true ∧ x.f3.size ≤ maxLen ∧ (x.f4.length ≤ maxLen ∧ ∀ y ∈ x.f4, (Lit.int .u8 y).wf = true)
theorem opens43 : Opens Try.prog 43 k43 wf43 := by
  refine ⟨by kernel_rfl, fun H enc w base spare held fuel cs x h => ?_⟩
  obtain ⟨xs, n, _, _, hl, hx, hf⟩ := DataW.trod_struct Try.underlying43 h
  obtain ⟨v0, k0_, w0⟩ := opens_field hf hx 0 _ rfl (o := 0) (t := 3) rfl rfl (opens_int Try.underlying3 (by kernel_rfl))
  obtain ⟨v1, k1_, w1⟩ := opens_field hf hx 1 _ rfl (o := 1) (t := 3) rfl rfl (opens_int Try.underlying3 (by kernel_rfl))
  obtain ⟨v2, k2_, w2⟩ := opens_field hf hx 2 _ rfl (o := 2) (t := 40) rfl rfl (opens_int Try.underlying40 (by kernel_rfl))
  obtain ⟨v3, k3_, w3⟩ := opens_field hf hx 3 _ rfl (o := 3) (t := 9) rfl rfl (opens_str Try.underlying9 (by kernel_rfl))
  obtain ⟨v4, k4_, w4⟩ := opens_field hf hx 4 _ rfl (o := 4) (t := 41) rfl rfl (opens_slice Try.underlying41 (by kernel_rfl) (opens_int Try.underlying5 (by kernel_rfl)))
  have hl' : cs.length = 5 := hl.trans (by kernel_rfl)
  refine ⟨⟨v0, v1, v2, v3, v4⟩, ?_, w0, w1, w2, w3, w4⟩
  have z_ := cut_last cs 4 1 hl'
  exact ⟨_, _, cut_more cs 0 1, k0_, _, _, cut_more cs 1 1, k1_, _, _, cut_more cs 2 1, k2_, _, _, cut_more cs 3 1, k3_, by rw [z_]; exact k4_⟩
def wf45 (x : S45) : Prop := (Lit.int .i64 x.f0).wf = true ∧ wf43 x.f1
theorem opens45 : Opens Try.prog 45 k45 wf45 := by
  refine ⟨by kernel_rfl, fun H enc w base spare held fuel cs x h => ?_⟩
  obtain ⟨xs, n, _, _, hl, hx, hf⟩ := DataW.trod_struct Try.underlying45 h
  obtain ⟨v0, k0_, w0⟩ := opens_field hf hx 0 _ rfl (o := 0) (t := 3) rfl rfl (opens_int Try.underlying3 (by kernel_rfl))
  obtain ⟨v1, k1_, w1⟩ := opens_field hf hx 1 _ rfl (o := 1) (t := 43) rfl rfl opens43
  have hl' : cs.length = 6 := hl.trans (by kernel_rfl)
  refine ⟨⟨v0, v1⟩, ?_, w0, w1⟩
  have z_ := cut_last cs 1 5 hl'
  exact ⟨_, _, cut_more cs 0 1, k0_, by rw [z_]; exact k1_⟩
theorem own : ownKnob Try.prog.godebug = none := by kernel_rfl
theorem laidOut : laidOutB Try.prog = true := by kernel_rfl
set_option maxRecDepth 100000 in
set_option maxHeartbeats 1000000 in
theorem lifted (os : Os) (started : os.Started) (H : Type) (enc : TypeId × Value → H) :
    ReturnsInHanded {} Try.checked os 10 .any (Rows.fnEntryValSpec.pre6 enc Try.prog Try.f10 Rows.fnEntryValRow.domain false) (Rows.fnEntryValSpec.post enc Try.prog Try.f10 false true false false) := by
  refine returnsInHanded_of_change_sized (C := Try.checked) own started (by kernel_rfl) Try.func10
    (ChangeSpec.witness6 (enc := enc) (C := Try.checked) false ⟨#[], #[.slice none 0 0, .int .i64 0], []⟩ 8 (by kernel_rfl) (by kernel_rfl) (by kernel_rfl) (by kernel_rfl)) ?_
  intro W base args ds gs before hval0 hW hcnd hsz0 _
  have hval : ∀ (j : Nat) t v, Try.f10.params[j]? = some t → args[j]? = some v → Value.okWide Try.prog W .any base t v := hval0
  have hW' := hW
  obtain ⟨p, q, hA0, hV, rfl, hfz, hnd⟩ := hW
  have hA : DataW.TrodAll enc Try.prog W 0 (fun _ => true) true Try.f10.params.toList args.toList ds p := hA0
  rw [Try.params10] at hA hval
  obtain ⟨v0, vs0, d0, ds0, p0, q0, hargs, rfl, rfl, h0, r0⟩ := trodAll_cons hA
  obtain ⟨v1, vs1, d1, ds1, p1, q1, rfl, rfl, rfl, h1, r1⟩ := trodAll_cons r0
  obtain ⟨rfl, rfl, rfl⟩ := trodAll_nil r1
  obtain rfl : args = #[v0, v1] := by cases args; simp_all
  obtain ⟨rfl, rfl⟩ := trodVars_none hV
  obtain ⟨A0, len0, c0, rfl⟩ := okWide_slice Try.underlying38 (hval 0 38 v0 rfl rfl)
  have k0 := h0
  have lt0 : ∀ x ∈ p0, x.block < W.heap.size := by obtain ⟨m, hm⟩ := k0; exact DataW.trod_lt m _ _ _ hm
  obtain ⟨l0, rfl, hc0, hr0, wl0⟩ : ∃ l : List (S45), len0 = l.length ∧ l.length ≤ c0 ∧ Kd.C k45 W A0 l.length l ∧ ((fun l => l.length ≤ maxLen ∧ ∀ x ∈ l, wf45 x) l) := by
    obtain ⟨fuel, hf⟩ := h0
    obtain ⟨v, ⟨A, c, hcs, hc, hC⟩, hw⟩ := (show Opens Try.prog 38 (Kd.slice 45 k45) (fun l => l.length ≤ maxLen ∧ ∀ x ∈ l, wf45 x) from (opens_slice Try.underlying38 (by kernel_rfl) opens45)).2 _ _ _ _ _ _ _ _ _ hf
    simp [Value.cells] at hcs
    obtain ⟨rfl, rfl, rfl⟩ := hcs
    exact ⟨v, rfl, hc, hC, hw⟩
  obtain ⟨a1, rfl, rfl, rfl, w1⟩ := open_int Try.underlying3 (hval 1 3 v1 rfl rfl) h1
  clear hA0 hval0 hsz0
  have hN : ∀ x ∈ l0, 0 ≤ x.f1.f2 ∧ x.f1.f2 < 18446744073709551616 := by
    intro x hx
    have h := (wl0.2 x hx).2.2.2.1
    simp [Lit.wf] at h
    have h2 : x.f1.f2 ≤ 18446744073709551615 := h.2
    exact ⟨h.1, by omega⟩
  refine (Ev.law_walk a1 l0 W hr0 hc0 hN).mono fun e W' ⟨he, bel⟩ => ?_
  subst he
  exact ⟨_, rfl, _, _, _, [], _, [], hW', trodAll_mk1 (shut_bool Try.underlying4 _), (trodAll_cons_mk (Below.trod laidOut (by kernel_rfl) (of_decide_eq_true (by kernel_rfl)) k0 bel lt0) (trodAll_cons_mk (shut_int Try.underlying3 w1) trodAll_mk0)), rfl, bel.frame _, fun h => by cases h⟩
theorem over : Rows.fnEntryValRow.holds Try.pinned (OpenSpec.ofChange Rows.fnEntryValSpec) :=
  OpenClaim.holds_of_wide 10 Try.f10 rfl rfl rfl rfl rfl rfl rfl ⟨rfl, rfl, rfl, rfl, rfl⟩ rfl rfl rfl rfl rfl (by kernel_rfl) Try.func10 (by kernel_rfl)
    (of_decide_eq_true (by kernel_rfl)) (by unfold Func.isWrapper; first | (rw [if_pos (by decide +kernel)]; kernel_rfl) | (rw [if_neg (by decide +kernel)]; exact ⟨rfl, rfl⟩))
    (fun os started H enc _ => lifted os started H enc)
theorem proved : Rows.FnEntryValSaid := over
#print axioms proved
end Go.Proofs.Ytepealmdnaondaa.fnEntryVal
namespace Go.Proofs.Ytepealmdnaondaa
/-- The row, under a short name, for the claim. -/
theorem fnEntryVal_holds : Rows.FnEntryValSaid := fnEntryVal.proved
end Go.Proofs.Ytepealmdnaondaa
