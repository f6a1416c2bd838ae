-- Printed by a program of this session (mkprint.py over the kit's print.py)
import Derived.Test.YtepealmdnaondaaPAllx0
import Derived.Test.YtepealmdnaondaaPAllx2
import Derived.Test.YtepealmdnaondaaPAllx4
import Derived.Test.YtepealmdnaondaaPAllx5
import Derived.Test.YtepealmdnaondaaExtra
namespace Go.Proofs.Ytepealmdnaondaa.PAll
open Go.RowKit Go.Proofs.YtepealmdnaondaaW.PrintWords Go.Proofs.YtepealmdnaondaaW.PrintLast Go.Proofs.YtepealmdnaondaaW.PrintMore
attribute [local go_sem] max2_int min2_int max_two min_two max_three min_three max_four min_four   -- for this text's walks alone
set_option linter.unusedVariables false
set_option linter.unusedSimpArgs false

/-! ### impl_MergeRanges: function 15 -/
def impl_MergeRanges.f (k : Nat) (l0 : List (S24)) (l1 : List (S24)) : Option ((List (S24))) := (impl_rangesTo.f k l0).bind fun t196 => ((impl_rangesTo.f k l1).bind fun t199 => ((dwarfwrite_MergeRanges.f k t196 t199).bind fun t202 => ((impl_rangesOf.f k t202).bind fun t205 => (some t205))))
theorem impl_MergeRanges.mono : ∀ a0 a1 k, LeO (impl_MergeRanges.f k a0 a1) (impl_MergeRanges.f (k + 1) a0 a1) := by
  intro a0 a1 k
  unfold impl_MergeRanges.f
  repeat' first
      | (with_reducible exact dwarfwrite_MergeRanges.mono _ _ _)
      | (with_reducible exact impl_rangesOf.mono _ _)
      | (with_reducible exact impl_rangesTo.mono _ _)
      | (with_reducible exact LeO.refl _)
      | (with_reducible exact LeO.none _)
      | (with_reducible refine LeO.ite ?_ ?_)
      | (with_reducible refine LeO.bind ?_ (fun _ => ?_))
      | exact dwarfwrite_MergeRanges.mono _ _ _
      | exact impl_rangesOf.mono _ _
      | exact impl_rangesTo.mono _ _
      | exact LeO.none _
      | refine LeO.ite ?_ ?_
      | refine LeO.bind ?_ (fun _ => ?_)
set_option maxHeartbeats 8000000 in
set_option maxRecDepth 100000 in
theorem impl_MergeRanges.calls (k : Nat) (A0 : Option Addr) (c0 : Nat) (l0 : List (S24)) (A1 : Option Addr) (c1 : Nat) (l1 : List (S24)) (r : List (S24)) (w : World) (hr0 : Kd.C k24 w A0 l0.length l0) (hc0 : l0.length ≤ c0) (hr1 : Kd.C k24 w A1 l1.length l1) (hc1 : l1.length ≤ c1) (h : impl_MergeRanges.f k l0 l1 = some r) :
    Calls Try.prog 15 #[.slice A0 l0.length c0, .slice A1 l1.length c1] w fun e w' => ∃ v0_ : Value, e = .returned (v0_) ∧ Kd.R k24 24 w' w.heap.size (fun _ => True) v0_ r ∧ Below w.heap.size w w' := by
  have HR0 := Aside0.mk hr0
  have HC0 := Aside0.mk hc0
  clear hr0 hc0
  have HR1 := Aside0.mk hr1
  have HC1 := Aside0.mk hc1
  clear hr1 hc1
  have HB := Aside0.mk (Below.refl w.heap.size w)
  have H : ((impl_rangesTo.f k l0).bind fun t196 => ((impl_rangesTo.f k l1).bind fun t199 => ((dwarfwrite_MergeRanges.f k t196 t199).bind fun t202 => ((impl_rangesOf.f k t202).bind fun t205 => (some t205))))) = some r := h
  clear h
  replace H := Option.bind_eq_some_iff.mp H
  obtain ⟨t196, A30, H⟩ := H
  replace H : ((impl_rangesTo.f k l1).bind fun t199 => ((dwarfwrite_MergeRanges.f k t196 t199).bind fun t202 => ((impl_rangesOf.f k t202).bind fun t205 => (some t205)))) = some r := H
  have A3 := Aside0.mk A30
  clear A30
  replace H := Option.bind_eq_some_iff.mp H
  obtain ⟨t199, A40, H⟩ := H
  replace H : ((dwarfwrite_MergeRanges.f k t196 t199).bind fun t202 => ((impl_rangesOf.f k t202).bind fun t205 => (some t205))) = some r := H
  have A4 := Aside0.mk A40
  clear A40
  replace H := Option.bind_eq_some_iff.mp H
  obtain ⟨t202, A50, H⟩ := H
  replace H : ((impl_rangesOf.f k t202).bind fun t205 => (some t205)) = some r := H
  have A5 := Aside0.mk A50
  clear A50
  replace H := Option.bind_eq_some_iff.mp H
  obtain ⟨t205, A60, H⟩ := H
  replace H : (some t205) = some r := H
  have A6 := Aside0.mk A60
  clear A60
  obtain rfl := Option.some.inj H
  go_enter Try.func15, Try.ntmps15
  go_wp2_with (first | ((with_reducible refine gate_callee (f := 23) rfl ?_); refine goesL_ (some 6) rfl rfl Try.func23 (by kernel_rfl) rfl #[.slice A0 l0.length c0] rfl (by (try simp only [List.map_toArray, List.map_cons, List.map_nil]); first | done | rfl | (simp only [List.length_drop, List.length_take]; rfl)) ?_; (with_reducible refine (impl_rangesTo.calls k _ _ l0 t196 _ ?side1 ?side2 A3.out).mono ?_); (case side1 => repeat (first | exact HR0.out | (with_reducible refine Kd.C_alloc ?_ _) | (with_reducible refine Kd.C_drewN ?_ _) | (with_reducible refine Kd.C_drew ?_))); (case side2 => exact HC0.out); rintro e w7 ⟨v197, rfl, ho0, hb⟩; refine ⟨_, rfl, ?_⟩; have n0_ := Aside0.mk (Kd.R_lower ho0 (below_size (by repeat (first | (with_reducible first | exact HB.out | apply below_alloc | apply pw_below_drewN | apply below_drew1) | exact HB.out)))); have n1_ := Aside0.mk (below_step (by repeat (first | (with_reducible first | exact HB.out | apply below_alloc | apply pw_below_drewN | apply below_drew1) | exact HB.out)) hb); clear HB; have HO198 := n0_; have HB := n1_; clear n0_ n1_; (try clear hb); (try clear hb2); (try clear hk); (try clear hi); (try clear ho0)) | ((with_reducible refine gate_callee (f := 23) rfl ?_); refine goesL_ (some 8) rfl rfl Try.func23 (by kernel_rfl) rfl #[.slice A1 l1.length c1] rfl (by (try simp only [List.map_toArray, List.map_cons, List.map_nil]); first | done | rfl | (simp only [List.length_drop, List.length_take]; rfl)) ?_; (with_reducible refine (impl_rangesTo.calls k _ _ l1 t199 _ ?side1 ?side2 A4.out).mono ?_); (case side1 => repeat (first | exact (Kd.C_below HR1.out HB.out) | (with_reducible refine Kd.C_alloc ?_ _) | (with_reducible refine Kd.C_drewN ?_ _) | (with_reducible refine Kd.C_drew ?_))); (case side2 => exact HC1.out); rintro e w8 ⟨v200, rfl, ho0, hb⟩; refine ⟨_, rfl, ?_⟩; have n0_ := Aside0.mk (Kd.R_elder' (by (with_reducible repeat (first | apply Kd.R_alloc | apply Kd.R_drewN | apply Kd.R_drew)); exact HO198.out) (Kd.R_base ho0) hb); have n1_ := Aside0.mk (Kd.R_lower (Kd.R_new' ho0 (Kd.R_lt (by (with_reducible repeat (first | apply Kd.R_alloc | apply Kd.R_drewN | apply Kd.R_drew)); exact HO198.out))) (below_size (by repeat (first | (with_reducible first | exact HB.out | apply below_alloc | apply pw_below_drewN | apply below_drew1) | exact HB.out)))); have n2_ := Aside0.mk (below_step (by repeat (first | (with_reducible first | exact HB.out | apply below_alloc | apply pw_below_drewN | apply below_drew1) | exact HB.out)) hb); clear HO198; clear HB; have HO198 := n0_; have HO201 := n1_; have HB := n2_; clear n0_ n1_ n2_; (try clear hb); (try clear hb2); (try clear hk); (try clear hi); (try clear ho0); obtain ⟨Ao9, co9, eo9⟩ := Kd.R_slice HO198.out; subst eo9; obtain ⟨Ao10, co10, eo10⟩ := Kd.R_slice HO201.out; subst eo10) | ((with_reducible refine gate_callee (f := 26) rfl ?_); refine goesL_ (some 9) rfl rfl Try.func26 (by kernel_rfl) rfl #[.slice Ao9 t196.length co9, .slice Ao10 t199.length co10] rfl (by (try simp only [List.map_toArray, List.map_cons, List.map_nil]); first | done | rfl | (simp only [List.length_drop, List.length_take]; rfl)) ?_; (with_reducible refine (dwarfwrite_MergeRanges.calls k _ _ t196 _ _ t199 t202 _ ?side1 ?side2 ?side3 ?side4 A5.out).mono ?_); (case side1 => repeat (first | exact (Kd.R_reads' HO198.out).2.2 | (with_reducible refine Kd.C_alloc ?_ _) | (with_reducible refine Kd.C_drewN ?_ _) | (with_reducible refine Kd.C_drew ?_))); (case side2 => exact (Kd.R_reads' HO198.out).2.1); (case side3 => repeat (first | exact (Kd.R_reads' HO201.out).2.2 | (with_reducible refine Kd.C_alloc ?_ _) | (with_reducible refine Kd.C_drewN ?_ _) | (with_reducible refine Kd.C_drew ?_))); (case side4 => exact (Kd.R_reads' HO201.out).2.1); rintro e w11 ⟨v203, rfl, ho0, hb⟩; refine ⟨_, rfl, ?_⟩; have n0_ := Aside0.mk (Kd.R_elder' (by (with_reducible repeat (first | apply Kd.R_alloc | apply Kd.R_drewN | apply Kd.R_drew)); exact HO198.out) (Kd.R_base ho0) hb); have n1_ := Aside0.mk (Kd.R_elder' (by (with_reducible repeat (first | apply Kd.R_alloc | apply Kd.R_drewN | apply Kd.R_drew)); exact HO201.out) (Kd.R_base ho0) hb); have n2_ := Aside0.mk (Kd.R_lower (Kd.R_new' (Kd.R_new' ho0 (Kd.R_lt (by (with_reducible repeat (first | apply Kd.R_alloc | apply Kd.R_drewN | apply Kd.R_drew)); exact HO198.out))) (Kd.R_lt (by (with_reducible repeat (first | apply Kd.R_alloc | apply Kd.R_drewN | apply Kd.R_drew)); exact HO201.out))) (below_size (by repeat (first | (with_reducible first | exact HB.out | apply below_alloc | apply pw_below_drewN | apply below_drew1) | exact HB.out)))); have n3_ := Aside0.mk (below_step (by repeat (first | (with_reducible first | exact HB.out | apply below_alloc | apply pw_below_drewN | apply below_drew1) | exact HB.out)) hb); clear HO198; clear HO201; clear HB; have HO198 := n0_; have HO201 := n1_; have HO204 := n2_; have HB := n3_; clear n0_ n1_ n2_ n3_; (try clear hb); (try clear hb2); (try clear hk); (try clear hi); (try clear ho0); obtain ⟨Ao12, co12, eo12⟩ := Kd.R_slice HO204.out; subst eo12) | ((with_reducible refine gate_callee (f := 25) rfl ?_); refine goesL_ (some 10) rfl rfl Try.func25 (by kernel_rfl) rfl #[.slice Ao12 t202.length co12] rfl (by (try simp only [List.map_toArray, List.map_cons, List.map_nil]); first | done | rfl | (simp only [List.length_drop, List.length_take]; rfl)) ?_; (with_reducible refine (impl_rangesOf.calls k _ _ t202 t205 _ ?side1 ?side2 A6.out).mono ?_); (case side1 => repeat (first | exact (Kd.R_reads' HO204.out).2.2 | (with_reducible refine Kd.C_alloc ?_ _) | (with_reducible refine Kd.C_drewN ?_ _) | (with_reducible refine Kd.C_drew ?_))); (case side2 => exact (Kd.R_reads' HO204.out).2.1); rintro e w13 ⟨v206, rfl, ho0, hb⟩; refine ⟨_, rfl, ?_⟩; have n0_ := Aside0.mk (Kd.R_below (by (with_reducible repeat (first | apply Kd.R_alloc | apply Kd.R_drewN | apply Kd.R_drew)); exact HO198.out) hb); have n1_ := Aside0.mk (Kd.R_below (by (with_reducible repeat (first | apply Kd.R_alloc | apply Kd.R_drewN | apply Kd.R_drew)); exact HO201.out) hb); have n2_ := Aside0.mk (Kd.R_below (by (with_reducible repeat (first | apply Kd.R_alloc | apply Kd.R_drewN | apply Kd.R_drew)); exact HO204.out) hb); have n3_ := Aside0.mk (Kd.R_lower ho0 (below_size (by repeat (first | (with_reducible first | exact HB.out | apply below_alloc | apply pw_below_drewN | apply below_drew1) | exact HB.out)))); have n4_ := Aside0.mk (below_step (by repeat (first | (with_reducible first | exact HB.out | apply below_alloc | apply pw_below_drewN | apply below_drew1) | exact HB.out)) hb); clear HO198; clear HO201; clear HO204; clear HB; have HO198 := n0_; have HO201 := n1_; have HO204 := n2_; have HO207 := n3_; have HB := n4_; clear n0_ n1_ n2_ n3_ n4_; (try clear hb); (try clear hb2); (try clear hk); (try clear hi); (try clear ho0)))
  go_ret
  exact ⟨_, by first | rfl | (simp [errW_none, errW_some] <;> rfl) | (simp [*, errW_none, errW_some] <;> rfl), by (with_reducible repeat (first | apply Kd.R_alloc | apply Kd.R_drewN | apply Kd.R_drew)); exact HO207.out, by repeat (first | (with_reducible first | exact HB.out | apply below_alloc | apply pw_below_drewN | apply below_drew1) | exact HB.out)⟩

/-! ### laws_FnMergeOrder: function 4 -/
mutual
def laws_FnMergeOrder.j0 : Nat → List (S24) → List (S24) → List (S24) → Bool → Option (Bool)
  | 0, _, _, _, _ => none
  | k + 1, x0, x1, x2, x21 => if x21 = true then (some true) else (if (x0.length : Int) > 65536 then (laws_FnMergeOrder.j1 k x0 x1 x2 true) else (if (x1.length : Int) > 65536 then (laws_FnMergeOrder.j1 k x0 x1 x2 true) else (if (x2.length : Int) > 65536 then (laws_FnMergeOrder.j1 k x0 x1 x2 true) else ((spec_AreApart.f k x0).bind fun t208 => (if t208 = true then ((spec_AreApart.f k x1).bind fun t209 => (if t209 = true then ((spec_AreApart.f k x2).bind fun t210 => (if t210 = true then ((spec_NoneInside.f k x0 x1).bind fun t211 => (if t211 = true then ((spec_NoneInside.f k x1 x2).bind fun t212 => (laws_FnMergeOrder.j1 k x0 x1 x2 (!t212))) else (laws_FnMergeOrder.j1 k x0 x1 x2 true))) else (laws_FnMergeOrder.j1 k x0 x1 x2 true))) else (laws_FnMergeOrder.j1 k x0 x1 x2 true))) else (laws_FnMergeOrder.j1 k x0 x1 x2 true))))))
def laws_FnMergeOrder.j1 : Nat → List (S24) → List (S24) → List (S24) → Bool → Option (Bool)
  | 0, _, _, _, _ => none
  | k + 1, x0, x1, x2, x61 => if x61 = true then (some true) else ((impl_MergeRanges.f k (([(⟨1, 2⟩ : S24)] : List (S24))) ([] : List (S24))).bind fun t216 => (if (t216.length : Int) = 1 then ((impl_MergeRanges.f k x0 x1).bind fun t219 => ((impl_MergeRanges.f k x1 x2).bind fun t222 => ((impl_MergeRanges.f k x1 x0).bind fun t225 => ((laws_sameRanges.f k t219 t225).bind fun t228 => (if t228 = true then ((spec_NoneInside.f k t219 x2).bind fun t229 => (if t229 = true then ((spec_NoneInside.f k x0 t222).bind fun t230 => (if t230 = true then ((impl_MergeRanges.f k t219 x2).bind fun t231 => ((impl_MergeRanges.f k x0 t222).bind fun t234 => ((laws_sameRanges.f k t231 t234).bind fun t237 => (some t237)))) else (some true))) else (some true))) else (some false)))))) else (some false)))
end
def laws_FnMergeOrder.f (k : Nat) (l0 : List (S24)) (l1 : List (S24)) (l2 : List (S24)) : Option (Bool) := if (l0.length : Int) > 2147483647 then (laws_FnMergeOrder.j0 k l0 l1 l2 true) else (if (l1.length : Int) > 2147483647 then (laws_FnMergeOrder.j0 k l0 l1 l2 true) else (laws_FnMergeOrder.j0 k l0 l1 l2 (decide ((l2.length : Int) > 2147483647))))
theorem laws_FnMergeOrder.mono_l : ∀ k, (∀ y0 y1 y2 y3, LeO (laws_FnMergeOrder.j0 k y0 y1 y2 y3) (laws_FnMergeOrder.j0 (k + 1) y0 y1 y2 y3)) ∧ (∀ y0 y1 y2 y3, LeO (laws_FnMergeOrder.j1 k y0 y1 y2 y3) (laws_FnMergeOrder.j1 (k + 1) y0 y1 y2 y3))
  | 0 => ⟨fun _ _ _ _ r h => by simp [laws_FnMergeOrder.j0] at h, fun _ _ _ _ r h => by simp [laws_FnMergeOrder.j1] at h⟩
  | k + 1 => by
    obtain ⟨ih0, ih1⟩ := laws_FnMergeOrder.mono_l k
    refine ⟨?_, ?_⟩
    · intro y0 y1 y2 y3
      unfold laws_FnMergeOrder.j0
      repeat' first
      | (with_reducible exact ih0 _ _ _ _)
      | (with_reducible exact ih1 _ _ _ _)
      | (with_reducible exact impl_MergeRanges.mono _ _ _)
      | (with_reducible exact laws_sameRanges.mono _ _ _)
      | (with_reducible exact spec_AreApart.mono _ _)
      | (with_reducible exact spec_NoneInside.mono _ _ _)
      | (with_reducible exact LeO.refl _)
      | (with_reducible exact LeO.none _)
      | (with_reducible refine LeO.ite ?_ ?_)
      | (with_reducible refine LeO.bind ?_ (fun _ => ?_))
      | exact ih0 _ _ _ _
      | exact ih1 _ _ _ _
      | exact impl_MergeRanges.mono _ _ _
      | exact laws_sameRanges.mono _ _ _
      | exact spec_AreApart.mono _ _
      | exact spec_NoneInside.mono _ _ _
      | exact LeO.none _
      | refine LeO.ite ?_ ?_
      | refine LeO.bind ?_ (fun _ => ?_)
    · intro y0 y1 y2 y3
      unfold laws_FnMergeOrder.j1
      repeat' first
      | (with_reducible exact ih0 _ _ _ _)
      | (with_reducible exact ih1 _ _ _ _)
      | (with_reducible exact impl_MergeRanges.mono _ _ _)
      | (with_reducible exact laws_sameRanges.mono _ _ _)
      | (with_reducible exact spec_AreApart.mono _ _)
      | (with_reducible exact spec_NoneInside.mono _ _ _)
      | (with_reducible exact LeO.refl _)
      | (with_reducible exact LeO.none _)
      | (with_reducible refine LeO.ite ?_ ?_)
      | (with_reducible refine LeO.bind ?_ (fun _ => ?_))
      | exact ih0 _ _ _ _
      | exact ih1 _ _ _ _
      | exact impl_MergeRanges.mono _ _ _
      | exact laws_sameRanges.mono _ _ _
      | exact spec_AreApart.mono _ _
      | exact spec_NoneInside.mono _ _ _
      | exact LeO.none _
      | refine LeO.ite ?_ ?_
      | refine LeO.bind ?_ (fun _ => ?_)
theorem laws_FnMergeOrder.mono : ∀ a0 a1 a2 k, LeO (laws_FnMergeOrder.f k a0 a1 a2) (laws_FnMergeOrder.f (k + 1) a0 a1 a2) := by
  intro a0 a1 a2 k
  obtain ⟨ih0, ih1⟩ := laws_FnMergeOrder.mono_l k
  unfold laws_FnMergeOrder.f
  repeat' first
      | (with_reducible exact ih0 _ _ _ _)
      | (with_reducible exact ih1 _ _ _ _)
      | (with_reducible exact impl_MergeRanges.mono _ _ _)
      | (with_reducible exact laws_sameRanges.mono _ _ _)
      | (with_reducible exact spec_AreApart.mono _ _)
      | (with_reducible exact spec_NoneInside.mono _ _ _)
      | (with_reducible exact LeO.refl _)
      | (with_reducible exact LeO.none _)
      | (with_reducible refine LeO.ite ?_ ?_)
      | (with_reducible refine LeO.bind ?_ (fun _ => ?_))
      | exact ih0 _ _ _ _
      | exact ih1 _ _ _ _
      | exact impl_MergeRanges.mono _ _ _
      | exact laws_sameRanges.mono _ _ _
      | exact spec_AreApart.mono _ _
      | exact spec_NoneInside.mono _ _ _
      | exact LeO.none _
      | refine LeO.ite ?_ ?_
      | refine LeO.bind ?_ (fun _ => ?_)
set_option maxHeartbeats 8000000 in
set_option maxRecDepth 100000 in
theorem laws_FnMergeOrder.calls (k : Nat) (A0 : Option Addr) (c0 : Nat) (l0 : List (S24)) (A1 : Option Addr) (c1 : Nat) (l1 : List (S24)) (A2 : Option Addr) (c2 : Nat) (l2 : List (S24)) (r : Bool) (w : World) (hr0 : Kd.C k24 w A0 l0.length l0) (hc0 : l0.length ≤ c0) (hr1 : Kd.C k24 w A1 l1.length l1) (hc1 : l1.length ≤ c1) (hr2 : Kd.C k24 w A2 l2.length l2) (hc2 : l2.length ≤ c2) (h : laws_FnMergeOrder.f k l0 l1 l2 = some r) :
    Calls Try.prog 4 #[.slice A0 l0.length c0, .slice A1 l1.length c1, .slice A2 l2.length c2] w fun e w' => e = .returned (.bool r) ∧ Below w.heap.size w w' := by
  have hu24 := Try.underlying24
  have HR0 := Aside0.mk hr0
  have HC0 := Aside0.mk hc0
  clear hr0 hc0
  have HR1 := Aside0.mk hr1
  have HC1 := Aside0.mk hc1
  clear hr1 hc1
  have HR2 := Aside0.mk hr2
  have HC2 := Aside0.mk hc2
  clear hr2 hc2
  have HB := Aside0.mk (Below.refl w.heap.size w)
  have H : (if (l0.length : Int) > 2147483647 then (laws_FnMergeOrder.j0 k l0 l1 l2 true) else (if (l1.length : Int) > 2147483647 then (laws_FnMergeOrder.j0 k l0 l1 l2 true) else (laws_FnMergeOrder.j0 k l0 l1 l2 (decide ((l2.length : Int) > 2147483647))))) = some r := h
  clear h
  have HC4 := Aside0.mk H
  clear H
  go_enter Try.func4, Try.ntmps4
  go_upto_region 1 with (fail)
  go_cut [21] (fun v21 wc => ∃ (kq : Nat) (x21_3 : Bool), v21 = .bool x21_3 ∧ Aside0 (laws_FnMergeOrder.j0 kq l0 l1 l2 x21_3 = some r) ∧ Aside0 (kq ≤ k) ∧ Aside0 (Below w.heap.size w wc))
  case first =>
    have H := HC4.out
    clear HC4
    by_cases c5 : (l0.length : Int) > 2147483647
    · rw [if_pos c5] at H
      have c5b0 : decide (2147483647 < (l0.length : Int)) = true := decide_eq_true c5
      have c5b1 : decide (2147483647 < l0.length) = true := decide_eq_true (by omega)
      clear c5
      (first | rw [c5b0] | (simp only [i64_w, i32_w]; rw [c5b0]) | skip)
      have H' := Aside0.mk H
      clear H
      go_wp2
      go_meet
      case rel => exact ⟨_, (true), (by first | rfl | (simp; done) | (simp [*]; done)), H', ⟨by first | omega | exact Nat.le_refl _⟩, ⟨by repeat (first | (with_reducible first | exact HB.out | apply below_alloc | apply pw_below_drewN | apply below_drew1) | exact HB.out)⟩⟩
    · rw [if_neg c5] at H
      have c5b0 : decide (2147483647 < (l0.length : Int)) = false := decide_eq_false c5
      have c5b1 : decide (2147483647 < l0.length) = false := decide_eq_false (by omega)
      clear c5
      (first | rw [c5b0] | (simp only [i64_w, i32_w]; rw [c5b0]) | skip)
      by_cases c6 : (l1.length : Int) > 2147483647
      · rw [if_pos c6] at H
        have c6b0 : decide (2147483647 < (l1.length : Int)) = true := decide_eq_true c6
        have c6b1 : decide (2147483647 < l1.length) = true := decide_eq_true (by omega)
        clear c6
        have H' := Aside0.mk H
        clear H
        go_wp2
        go_meet
        case rel => exact ⟨_, (true), (by first | rfl | (simp; done) | (simp [*]; done)), H', ⟨by first | omega | exact Nat.le_refl _⟩, ⟨by repeat (first | (with_reducible first | exact HB.out | apply below_alloc | apply pw_below_drewN | apply below_drew1) | exact HB.out)⟩⟩
      · rw [if_neg c6] at H
        have c6b0 : decide (2147483647 < (l1.length : Int)) = false := decide_eq_false c6
        have c6b1 : decide (2147483647 < l1.length) = false := decide_eq_false (by omega)
        clear c6
        have H' := Aside0.mk H
        clear H
        go_wp2
        go_meet
        case rel => exact ⟨_, (decide ((l2.length : Int) > 2147483647)), (by first | rfl | (simp; done) | (simp [*]; done)), H', ⟨by first | omega | exact Nat.le_refl _⟩, ⟨by repeat (first | (with_reducible first | exact HB.out | apply below_alloc | apply pw_below_drewN | apply below_drew1) | exact HB.out)⟩⟩
  case rest =>
    clear HC4
    try clear c1
    try clear c2
    try clear p2
    try clear c4
    try clear c5
    try clear c5b0
    try clear c5b1
    try clear c6
    try clear c6b0
    try clear c6b1
    obtain ⟨kq, x21_3, rfl, HA, HJ3, HB⟩ := hcut
    cases kq with
    | zero => exact absurd HA.out (by simp [laws_FnMergeOrder.j0])
    | succ kj3 =>
      have H := HA.out
      clear HA
      simp only [laws_FnMergeOrder.j0] at H
      by_cases c7 : x21_3 = true
      · subst c7
        have H1 : (some true) = some r := by rw [if_pos rfl] at H; exact H
        clear H
        have H := H1
        clear H1
        obtain rfl := Option.some.inj H
        go_wp2
        go_ret
        exact ⟨by first | rfl | (simp [errW_none, errW_some] <;> rfl) | (simp [*, errW_none, errW_some] <;> rfl), by repeat (first | (with_reducible first | exact HB.out | apply below_alloc | apply pw_below_drewN | apply below_drew1) | exact HB.out)⟩
      · replace c7 := Bool.eq_false_iff.mpr c7
        subst c7
        have H1 : (if (l0.length : Int) > 65536 then (laws_FnMergeOrder.j1 kj3 l0 l1 l2 true) else (if (l1.length : Int) > 65536 then (laws_FnMergeOrder.j1 kj3 l0 l1 l2 true) else (if (l2.length : Int) > 65536 then (laws_FnMergeOrder.j1 kj3 l0 l1 l2 true) else ((spec_AreApart.f kj3 l0).bind fun t208 => (if t208 = true then ((spec_AreApart.f kj3 l1).bind fun t209 => (if t209 = true then ((spec_AreApart.f kj3 l2).bind fun t210 => (if t210 = true then ((spec_NoneInside.f kj3 l0 l1).bind fun t211 => (if t211 = true then ((spec_NoneInside.f kj3 l1 l2).bind fun t212 => (laws_FnMergeOrder.j1 kj3 l0 l1 l2 (!t212))) else (laws_FnMergeOrder.j1 kj3 l0 l1 l2 true))) else (laws_FnMergeOrder.j1 kj3 l0 l1 l2 true))) else (laws_FnMergeOrder.j1 kj3 l0 l1 l2 true))) else (laws_FnMergeOrder.j1 kj3 l0 l1 l2 true)))))) = some r := by rw [if_neg (show ¬ (false = true) by decide)] at H; exact H
        clear H
        have H := H1
        clear H1
        have HC8 := Aside0.mk H
        clear H
        go_upto_region 3 with (fail)
        go_cut [61] (fun v61 wc => ∃ (kq : Nat) (x61_7 : Bool), v61 = .bool x61_7 ∧ Aside0 (laws_FnMergeOrder.j1 kq l0 l1 l2 x61_7 = some r) ∧ Aside0 (kq ≤ kj3) ∧ Aside0 (Below w.heap.size w wc))
        case first =>
          have H := HC8.out
          clear HC8
          by_cases c9 : (l0.length : Int) > 65536
          · rw [if_pos c9] at H
            have c9b0 : decide (65536 < (l0.length : Int)) = true := decide_eq_true c9
            have c9b1 : decide (65536 < l0.length) = true := decide_eq_true (by omega)
            clear c9
            (first | rw [c9b0] | (simp only [i64_w, i32_w]; rw [c9b0]) | skip)
            have H' := Aside0.mk H
            clear H
            go_wp2
            go_meet
            case rel => exact ⟨_, (true), (by first | rfl | (simp; done) | (simp [*]; done)), H', ⟨by have := HJ3.out; first | omega | exact Nat.le_refl _⟩, ⟨by repeat (first | (with_reducible first | exact HB.out | apply below_alloc | apply pw_below_drewN | apply below_drew1) | exact HB.out)⟩⟩
          · rw [if_neg c9] at H
            have c9b0 : decide (65536 < (l0.length : Int)) = false := decide_eq_false c9
            have c9b1 : decide (65536 < l0.length) = false := decide_eq_false (by omega)
            clear c9
            (first | rw [c9b0] | (simp only [i64_w, i32_w]; rw [c9b0]) | skip)
            by_cases c10 : (l1.length : Int) > 65536
            · rw [if_pos c10] at H
              have c10b0 : decide (65536 < (l1.length : Int)) = true := decide_eq_true c10
              have c10b1 : decide (65536 < l1.length) = true := decide_eq_true (by omega)
              clear c10
              have H' := Aside0.mk H
              clear H
              go_wp2
              go_meet
              case rel => exact ⟨_, (true), (by first | rfl | (simp; done) | (simp [*]; done)), H', ⟨by have := HJ3.out; first | omega | exact Nat.le_refl _⟩, ⟨by repeat (first | (with_reducible first | exact HB.out | apply below_alloc | apply pw_below_drewN | apply below_drew1) | exact HB.out)⟩⟩
            · rw [if_neg c10] at H
              have c10b0 : decide (65536 < (l1.length : Int)) = false := decide_eq_false c10
              have c10b1 : decide (65536 < l1.length) = false := decide_eq_false (by omega)
              clear c10
              by_cases c11 : (l2.length : Int) > 65536
              · rw [if_pos c11] at H
                have c11b0 : decide (65536 < (l2.length : Int)) = true := decide_eq_true c11
                have c11b1 : decide (65536 < l2.length) = true := decide_eq_true (by omega)
                clear c11
                have H' := Aside0.mk H
                clear H
                go_wp2
                go_meet
                case rel => exact ⟨_, (true), (by first | rfl | (simp; done) | (simp [*]; done)), H', ⟨by have := HJ3.out; first | omega | exact Nat.le_refl _⟩, ⟨by repeat (first | (with_reducible first | exact HB.out | apply below_alloc | apply pw_below_drewN | apply below_drew1) | exact HB.out)⟩⟩
              · rw [if_neg c11] at H
                have c11b0 : decide (65536 < (l2.length : Int)) = false := decide_eq_false c11
                have c11b1 : decide (65536 < l2.length) = false := decide_eq_false (by omega)
                clear c11
                replace H := Option.bind_eq_some_iff.mp H
                obtain ⟨t208, A120, H⟩ := H
                replace H : (if t208 = true then ((spec_AreApart.f kj3 l1).bind fun t209 => (if t209 = true then ((spec_AreApart.f kj3 l2).bind fun t210 => (if t210 = true then ((spec_NoneInside.f kj3 l0 l1).bind fun t211 => (if t211 = true then ((spec_NoneInside.f kj3 l1 l2).bind fun t212 => (laws_FnMergeOrder.j1 kj3 l0 l1 l2 (!t212))) else (laws_FnMergeOrder.j1 kj3 l0 l1 l2 true))) else (laws_FnMergeOrder.j1 kj3 l0 l1 l2 true))) else (laws_FnMergeOrder.j1 kj3 l0 l1 l2 true))) else (laws_FnMergeOrder.j1 kj3 l0 l1 l2 true)) = some r := H
                have A12 := Aside0.mk A120
                clear A120
                by_cases c13 : t208 = true
                · subst c13
                  have H1 : ((spec_AreApart.f kj3 l1).bind fun t209 => (if t209 = true then ((spec_AreApart.f kj3 l2).bind fun t210 => (if t210 = true then ((spec_NoneInside.f kj3 l0 l1).bind fun t211 => (if t211 = true then ((spec_NoneInside.f kj3 l1 l2).bind fun t212 => (laws_FnMergeOrder.j1 kj3 l0 l1 l2 (!t212))) else (laws_FnMergeOrder.j1 kj3 l0 l1 l2 true))) else (laws_FnMergeOrder.j1 kj3 l0 l1 l2 true))) else (laws_FnMergeOrder.j1 kj3 l0 l1 l2 true))) = some r := by rw [if_pos rfl] at H; exact H
                  clear H
                  have H := H1
                  clear H1
                  replace H := Option.bind_eq_some_iff.mp H
                  obtain ⟨t209, A140, H⟩ := H
                  replace H : (if t209 = true then ((spec_AreApart.f kj3 l2).bind fun t210 => (if t210 = true then ((spec_NoneInside.f kj3 l0 l1).bind fun t211 => (if t211 = true then ((spec_NoneInside.f kj3 l1 l2).bind fun t212 => (laws_FnMergeOrder.j1 kj3 l0 l1 l2 (!t212))) else (laws_FnMergeOrder.j1 kj3 l0 l1 l2 true))) else (laws_FnMergeOrder.j1 kj3 l0 l1 l2 true))) else (laws_FnMergeOrder.j1 kj3 l0 l1 l2 true)) = some r := H
                  have A14 := Aside0.mk A140
                  clear A140
                  by_cases c15 : t209 = true
                  · subst c15
                    have H1 : ((spec_AreApart.f kj3 l2).bind fun t210 => (if t210 = true then ((spec_NoneInside.f kj3 l0 l1).bind fun t211 => (if t211 = true then ((spec_NoneInside.f kj3 l1 l2).bind fun t212 => (laws_FnMergeOrder.j1 kj3 l0 l1 l2 (!t212))) else (laws_FnMergeOrder.j1 kj3 l0 l1 l2 true))) else (laws_FnMergeOrder.j1 kj3 l0 l1 l2 true))) = some r := by rw [if_pos rfl] at H; exact H
                    clear H
                    have H := H1
                    clear H1
                    replace H := Option.bind_eq_some_iff.mp H
                    obtain ⟨t210, A160, H⟩ := H
                    replace H : (if t210 = true then ((spec_NoneInside.f kj3 l0 l1).bind fun t211 => (if t211 = true then ((spec_NoneInside.f kj3 l1 l2).bind fun t212 => (laws_FnMergeOrder.j1 kj3 l0 l1 l2 (!t212))) else (laws_FnMergeOrder.j1 kj3 l0 l1 l2 true))) else (laws_FnMergeOrder.j1 kj3 l0 l1 l2 true)) = some r := H
                    have A16 := Aside0.mk A160
                    clear A160
                    by_cases c17 : t210 = true
                    · subst c17
                      have H1 : ((spec_NoneInside.f kj3 l0 l1).bind fun t211 => (if t211 = true then ((spec_NoneInside.f kj3 l1 l2).bind fun t212 => (laws_FnMergeOrder.j1 kj3 l0 l1 l2 (!t212))) else (laws_FnMergeOrder.j1 kj3 l0 l1 l2 true))) = some r := by rw [if_pos rfl] at H; exact H
                      clear H
                      have H := H1
                      clear H1
                      replace H := Option.bind_eq_some_iff.mp H
                      obtain ⟨t211, A180, H⟩ := H
                      replace H : (if t211 = true then ((spec_NoneInside.f kj3 l1 l2).bind fun t212 => (laws_FnMergeOrder.j1 kj3 l0 l1 l2 (!t212))) else (laws_FnMergeOrder.j1 kj3 l0 l1 l2 true)) = some r := H
                      have A18 := Aside0.mk A180
                      clear A180
                      by_cases c19 : t211 = true
                      · subst c19
                        have H1 : ((spec_NoneInside.f kj3 l1 l2).bind fun t212 => (laws_FnMergeOrder.j1 kj3 l0 l1 l2 (!t212))) = some r := by rw [if_pos rfl] at H; exact H
                        clear H
                        have H := H1
                        clear H1
                        replace H := Option.bind_eq_some_iff.mp H
                        obtain ⟨t212, A200, H⟩ := H
                        replace H : (laws_FnMergeOrder.j1 kj3 l0 l1 l2 (!t212)) = some r := H
                        have A20 := Aside0.mk A200
                        clear A200
                        have H' := Aside0.mk H
                        clear H
                        go_wp2_with (first | (go_at_call 13; (with_reducible refine (spec_AreApart.calls kj3 _ _ l0 true _ ?side1 ?side2 A12.out).mono ?_); (case side1 => repeat (first | exact (Kd.C_below HR0.out HB.out) | (with_reducible refine Kd.C_alloc ?_ _) | (with_reducible refine Kd.C_drewN ?_ _) | (with_reducible refine Kd.C_drew ?_))); (case side2 => exact HC0.out); rintro e w21 ⟨rfl, hb⟩; have n0_ := Aside0.mk (below_step (by repeat (first | (with_reducible first | exact HB.out | apply below_alloc | apply pw_below_drewN | apply below_drew1) | exact HB.out)) hb); clear HB; have HB := n0_; clear n0_; (try clear hb); (try clear hb2); (try clear hk); (try clear hi)) | (go_at_call 13; (with_reducible refine (spec_AreApart.calls kj3 _ _ l1 true _ ?side1 ?side2 A14.out).mono ?_); (case side1 => repeat (first | exact (Kd.C_below HR1.out HB.out) | (with_reducible refine Kd.C_alloc ?_ _) | (with_reducible refine Kd.C_drewN ?_ _) | (with_reducible refine Kd.C_drew ?_))); (case side2 => exact HC1.out); rintro e w22 ⟨rfl, hb⟩; have n0_ := Aside0.mk (below_step (by repeat (first | (with_reducible first | exact HB.out | apply below_alloc | apply pw_below_drewN | apply below_drew1) | exact HB.out)) hb); clear HB; have HB := n0_; clear n0_; (try clear hb); (try clear hb2); (try clear hk); (try clear hi)) | (go_at_call 13; (with_reducible refine (spec_AreApart.calls kj3 _ _ l2 true _ ?side1 ?side2 A16.out).mono ?_); (case side1 => repeat (first | exact (Kd.C_below HR2.out HB.out) | (with_reducible refine Kd.C_alloc ?_ _) | (with_reducible refine Kd.C_drewN ?_ _) | (with_reducible refine Kd.C_drew ?_))); (case side2 => exact HC2.out); rintro e w23 ⟨rfl, hb⟩; have n0_ := Aside0.mk (below_step (by repeat (first | (with_reducible first | exact HB.out | apply below_alloc | apply pw_below_drewN | apply below_drew1) | exact HB.out)) hb); clear HB; have HB := n0_; clear n0_; (try clear hb); (try clear hb2); (try clear hk); (try clear hi)) | (go_at_call 14; (with_reducible refine (spec_NoneInside.calls kj3 _ _ l0 _ _ l1 true _ ?side1 ?side2 ?side3 ?side4 A18.out).mono ?_); (case side1 => repeat (first | exact (Kd.C_below HR0.out HB.out) | (with_reducible refine Kd.C_alloc ?_ _) | (with_reducible refine Kd.C_drewN ?_ _) | (with_reducible refine Kd.C_drew ?_))); (case side2 => exact HC0.out); (case side3 => repeat (first | exact (Kd.C_below HR1.out HB.out) | (with_reducible refine Kd.C_alloc ?_ _) | (with_reducible refine Kd.C_drewN ?_ _) | (with_reducible refine Kd.C_drew ?_))); (case side4 => exact HC1.out); rintro e w24 ⟨rfl, hb⟩; have n0_ := Aside0.mk (below_step (by repeat (first | (with_reducible first | exact HB.out | apply below_alloc | apply pw_below_drewN | apply below_drew1) | exact HB.out)) hb); clear HB; have HB := n0_; clear n0_; (try clear hb); (try clear hb2); (try clear hk); (try clear hi)) | (go_at_call 14; (with_reducible refine (spec_NoneInside.calls kj3 _ _ l1 _ _ l2 t212 _ ?side1 ?side2 ?side3 ?side4 A20.out).mono ?_); (case side1 => repeat (first | exact (Kd.C_below HR1.out HB.out) | (with_reducible refine Kd.C_alloc ?_ _) | (with_reducible refine Kd.C_drewN ?_ _) | (with_reducible refine Kd.C_drew ?_))); (case side2 => exact HC1.out); (case side3 => repeat (first | exact (Kd.C_below HR2.out HB.out) | (with_reducible refine Kd.C_alloc ?_ _) | (with_reducible refine Kd.C_drewN ?_ _) | (with_reducible refine Kd.C_drew ?_))); (case side4 => exact HC2.out); rintro e w25 ⟨rfl, hb⟩; have n0_ := Aside0.mk (below_step (by repeat (first | (with_reducible first | exact HB.out | apply below_alloc | apply pw_below_drewN | apply below_drew1) | exact HB.out)) hb); clear HB; have HB := n0_; clear n0_; (try clear hb); (try clear hb2); (try clear hk); (try clear hi)))
                        go_meet
                        case rel => exact ⟨_, (!t212), (by first | rfl | (simp; done) | (simp [*]; done)), H', ⟨by have := HJ3.out; first | omega | exact Nat.le_refl _⟩, ⟨by repeat (first | (with_reducible first | exact HB.out | apply below_alloc | apply pw_below_drewN | apply below_drew1) | exact HB.out)⟩⟩
                      · replace c19 := Bool.eq_false_iff.mpr c19
                        subst c19
                        have H1 : (laws_FnMergeOrder.j1 kj3 l0 l1 l2 true) = some r := by rw [if_neg (show ¬ (false = true) by decide)] at H; exact H
                        clear H
                        have H := H1
                        clear H1
                        have H' := Aside0.mk H
                        clear H
                        go_wp2_with (first | (go_at_call 13; (with_reducible refine (spec_AreApart.calls kj3 _ _ l0 true _ ?side1 ?side2 A12.out).mono ?_); (case side1 => repeat (first | exact (Kd.C_below HR0.out HB.out) | (with_reducible refine Kd.C_alloc ?_ _) | (with_reducible refine Kd.C_drewN ?_ _) | (with_reducible refine Kd.C_drew ?_))); (case side2 => exact HC0.out); rintro e w26 ⟨rfl, hb⟩; have n0_ := Aside0.mk (below_step (by repeat (first | (with_reducible first | exact HB.out | apply below_alloc | apply pw_below_drewN | apply below_drew1) | exact HB.out)) hb); clear HB; have HB := n0_; clear n0_; (try clear hb); (try clear hb2); (try clear hk); (try clear hi)) | (go_at_call 13; (with_reducible refine (spec_AreApart.calls kj3 _ _ l1 true _ ?side1 ?side2 A14.out).mono ?_); (case side1 => repeat (first | exact (Kd.C_below HR1.out HB.out) | (with_reducible refine Kd.C_alloc ?_ _) | (with_reducible refine Kd.C_drewN ?_ _) | (with_reducible refine Kd.C_drew ?_))); (case side2 => exact HC1.out); rintro e w27 ⟨rfl, hb⟩; have n0_ := Aside0.mk (below_step (by repeat (first | (with_reducible first | exact HB.out | apply below_alloc | apply pw_below_drewN | apply below_drew1) | exact HB.out)) hb); clear HB; have HB := n0_; clear n0_; (try clear hb); (try clear hb2); (try clear hk); (try clear hi)) | (go_at_call 13; (with_reducible refine (spec_AreApart.calls kj3 _ _ l2 true _ ?side1 ?side2 A16.out).mono ?_); (case side1 => repeat (first | exact (Kd.C_below HR2.out HB.out) | (with_reducible refine Kd.C_alloc ?_ _) | (with_reducible refine Kd.C_drewN ?_ _) | (with_reducible refine Kd.C_drew ?_))); (case side2 => exact HC2.out); rintro e w28 ⟨rfl, hb⟩; have n0_ := Aside0.mk (below_step (by repeat (first | (with_reducible first | exact HB.out | apply below_alloc | apply pw_below_drewN | apply below_drew1) | exact HB.out)) hb); clear HB; have HB := n0_; clear n0_; (try clear hb); (try clear hb2); (try clear hk); (try clear hi)) | (go_at_call 14; (with_reducible refine (spec_NoneInside.calls kj3 _ _ l0 _ _ l1 false _ ?side1 ?side2 ?side3 ?side4 A18.out).mono ?_); (case side1 => repeat (first | exact (Kd.C_below HR0.out HB.out) | (with_reducible refine Kd.C_alloc ?_ _) | (with_reducible refine Kd.C_drewN ?_ _) | (with_reducible refine Kd.C_drew ?_))); (case side2 => exact HC0.out); (case side3 => repeat (first | exact (Kd.C_below HR1.out HB.out) | (with_reducible refine Kd.C_alloc ?_ _) | (with_reducible refine Kd.C_drewN ?_ _) | (with_reducible refine Kd.C_drew ?_))); (case side4 => exact HC1.out); rintro e w29 ⟨rfl, hb⟩; have n0_ := Aside0.mk (below_step (by repeat (first | (with_reducible first | exact HB.out | apply below_alloc | apply pw_below_drewN | apply below_drew1) | exact HB.out)) hb); clear HB; have HB := n0_; clear n0_; (try clear hb); (try clear hb2); (try clear hk); (try clear hi)))
                        go_meet
                        case rel => exact ⟨_, (true), (by first | rfl | (simp; done) | (simp [*]; done)), H', ⟨by have := HJ3.out; first | omega | exact Nat.le_refl _⟩, ⟨by repeat (first | (with_reducible first | exact HB.out | apply below_alloc | apply pw_below_drewN | apply below_drew1) | exact HB.out)⟩⟩
                    · replace c17 := Bool.eq_false_iff.mpr c17
                      subst c17
                      have H1 : (laws_FnMergeOrder.j1 kj3 l0 l1 l2 true) = some r := by rw [if_neg (show ¬ (false = true) by decide)] at H; exact H
                      clear H
                      have H := H1
                      clear H1
                      have H' := Aside0.mk H
                      clear H
                      go_wp2_with (first | (go_at_call 13; (with_reducible refine (spec_AreApart.calls kj3 _ _ l0 true _ ?side1 ?side2 A12.out).mono ?_); (case side1 => repeat (first | exact (Kd.C_below HR0.out HB.out) | (with_reducible refine Kd.C_alloc ?_ _) | (with_reducible refine Kd.C_drewN ?_ _) | (with_reducible refine Kd.C_drew ?_))); (case side2 => exact HC0.out); rintro e w30 ⟨rfl, hb⟩; have n0_ := Aside0.mk (below_step (by repeat (first | (with_reducible first | exact HB.out | apply below_alloc | apply pw_below_drewN | apply below_drew1) | exact HB.out)) hb); clear HB; have HB := n0_; clear n0_; (try clear hb); (try clear hb2); (try clear hk); (try clear hi)) | (go_at_call 13; (with_reducible refine (spec_AreApart.calls kj3 _ _ l1 true _ ?side1 ?side2 A14.out).mono ?_); (case side1 => repeat (first | exact (Kd.C_below HR1.out HB.out) | (with_reducible refine Kd.C_alloc ?_ _) | (with_reducible refine Kd.C_drewN ?_ _) | (with_reducible refine Kd.C_drew ?_))); (case side2 => exact HC1.out); rintro e w31 ⟨rfl, hb⟩; have n0_ := Aside0.mk (below_step (by repeat (first | (with_reducible first | exact HB.out | apply below_alloc | apply pw_below_drewN | apply below_drew1) | exact HB.out)) hb); clear HB; have HB := n0_; clear n0_; (try clear hb); (try clear hb2); (try clear hk); (try clear hi)) | (go_at_call 13; (with_reducible refine (spec_AreApart.calls kj3 _ _ l2 false _ ?side1 ?side2 A16.out).mono ?_); (case side1 => repeat (first | exact (Kd.C_below HR2.out HB.out) | (with_reducible refine Kd.C_alloc ?_ _) | (with_reducible refine Kd.C_drewN ?_ _) | (with_reducible refine Kd.C_drew ?_))); (case side2 => exact HC2.out); rintro e w32 ⟨rfl, hb⟩; have n0_ := Aside0.mk (below_step (by repeat (first | (with_reducible first | exact HB.out | apply below_alloc | apply pw_below_drewN | apply below_drew1) | exact HB.out)) hb); clear HB; have HB := n0_; clear n0_; (try clear hb); (try clear hb2); (try clear hk); (try clear hi)))
                      go_meet
                      case rel => exact ⟨_, (true), (by first | rfl | (simp; done) | (simp [*]; done)), H', ⟨by have := HJ3.out; first | omega | exact Nat.le_refl _⟩, ⟨by repeat (first | (with_reducible first | exact HB.out | apply below_alloc | apply pw_below_drewN | apply below_drew1) | exact HB.out)⟩⟩
                  · replace c15 := Bool.eq_false_iff.mpr c15
                    subst c15
                    have H1 : (laws_FnMergeOrder.j1 kj3 l0 l1 l2 true) = some r := by rw [if_neg (show ¬ (false = true) by decide)] at H; exact H
                    clear H
                    have H := H1
                    clear H1
                    have H' := Aside0.mk H
                    clear H
                    go_wp2_with (first | (go_at_call 13; (with_reducible refine (spec_AreApart.calls kj3 _ _ l0 true _ ?side1 ?side2 A12.out).mono ?_); (case side1 => repeat (first | exact (Kd.C_below HR0.out HB.out) | (with_reducible refine Kd.C_alloc ?_ _) | (with_reducible refine Kd.C_drewN ?_ _) | (with_reducible refine Kd.C_drew ?_))); (case side2 => exact HC0.out); rintro e w33 ⟨rfl, hb⟩; have n0_ := Aside0.mk (below_step (by repeat (first | (with_reducible first | exact HB.out | apply below_alloc | apply pw_below_drewN | apply below_drew1) | exact HB.out)) hb); clear HB; have HB := n0_; clear n0_; (try clear hb); (try clear hb2); (try clear hk); (try clear hi)) | (go_at_call 13; (with_reducible refine (spec_AreApart.calls kj3 _ _ l1 false _ ?side1 ?side2 A14.out).mono ?_); (case side1 => repeat (first | exact (Kd.C_below HR1.out HB.out) | (with_reducible refine Kd.C_alloc ?_ _) | (with_reducible refine Kd.C_drewN ?_ _) | (with_reducible refine Kd.C_drew ?_))); (case side2 => exact HC1.out); rintro e w34 ⟨rfl, hb⟩; have n0_ := Aside0.mk (below_step (by repeat (first | (with_reducible first | exact HB.out | apply below_alloc | apply pw_below_drewN | apply below_drew1) | exact HB.out)) hb); clear HB; have HB := n0_; clear n0_; (try clear hb); (try clear hb2); (try clear hk); (try clear hi)))
                    go_meet
                    case rel => exact ⟨_, (true), (by first | rfl | (simp; done) | (simp [*]; done)), H', ⟨by have := HJ3.out; first | omega | exact Nat.le_refl _⟩, ⟨by repeat (first | (with_reducible first | exact HB.out | apply below_alloc | apply pw_below_drewN | apply below_drew1) | exact HB.out)⟩⟩
                · replace c13 := Bool.eq_false_iff.mpr c13
                  subst c13
                  have H1 : (laws_FnMergeOrder.j1 kj3 l0 l1 l2 true) = some r := by rw [if_neg (show ¬ (false = true) by decide)] at H; exact H
                  clear H
                  have H := H1
                  clear H1
                  have H' := Aside0.mk H
                  clear H
                  go_wp2_with (first | (go_at_call 13; (with_reducible refine (spec_AreApart.calls kj3 _ _ l0 false _ ?side1 ?side2 A12.out).mono ?_); (case side1 => repeat (first | exact (Kd.C_below HR0.out HB.out) | (with_reducible refine Kd.C_alloc ?_ _) | (with_reducible refine Kd.C_drewN ?_ _) | (with_reducible refine Kd.C_drew ?_))); (case side2 => exact HC0.out); rintro e w35 ⟨rfl, hb⟩; have n0_ := Aside0.mk (below_step (by repeat (first | (with_reducible first | exact HB.out | apply below_alloc | apply pw_below_drewN | apply below_drew1) | exact HB.out)) hb); clear HB; have HB := n0_; clear n0_; (try clear hb); (try clear hb2); (try clear hk); (try clear hi)))
                  go_meet
                  case rel => exact ⟨_, (true), (by first | rfl | (simp; done) | (simp [*]; done)), H', ⟨by have := HJ3.out; first | omega | exact Nat.le_refl _⟩, ⟨by repeat (first | (with_reducible first | exact HB.out | apply below_alloc | apply pw_below_drewN | apply below_drew1) | exact HB.out)⟩⟩
        case rest =>
          clear HC8
          try clear c1
          try clear c2
          try clear p2
          try clear c4
          try clear c5
          try clear c5b0
          try clear c5b1
          try clear c6
          try clear c6b0
          try clear c6b1
          try clear c7
          try clear c9
          try clear c9b0
          try clear c9b1
          try clear c10
          try clear c10b0
          try clear c10b1
          try clear c11
          try clear c11b0
          try clear c11b1
          try clear c13
          try clear c15
          try clear c17
          try clear c19
          try clear p2
          obtain ⟨kq, x61_7, rfl, HA, HJ7, HB⟩ := hcut
          cases kq with
          | zero => exact absurd HA.out (by simp [laws_FnMergeOrder.j1])
          | succ kj7 =>
            have H := HA.out
            clear HA
            simp only [laws_FnMergeOrder.j1] at H
            by_cases c36 : x61_7 = true
            · subst c36
              have H1 : (some true) = some r := by rw [if_pos rfl] at H; exact H
              clear H
              have H := H1
              clear H1
              obtain rfl := Option.some.inj H
              go_wp2
              go_ret
              exact ⟨by first | rfl | (simp [errW_none, errW_some] <;> rfl) | (simp [*, errW_none, errW_some] <;> rfl), by repeat (first | (with_reducible first | exact HB.out | apply below_alloc | apply pw_below_drewN | apply below_drew1) | exact HB.out)⟩
            · replace c36 := Bool.eq_false_iff.mpr c36
              subst c36
              have H1 : ((impl_MergeRanges.f kj7 (([(⟨1, 2⟩ : S24)] : List (S24))) ([] : List (S24))).bind fun t216 => (if (t216.length : Int) = 1 then ((impl_MergeRanges.f kj7 l0 l1).bind fun t219 => ((impl_MergeRanges.f kj7 l1 l2).bind fun t222 => ((impl_MergeRanges.f kj7 l1 l0).bind fun t225 => ((laws_sameRanges.f kj7 t219 t225).bind fun t228 => (if t228 = true then ((spec_NoneInside.f kj7 t219 l2).bind fun t229 => (if t229 = true then ((spec_NoneInside.f kj7 l0 t222).bind fun t230 => (if t230 = true then ((impl_MergeRanges.f kj7 t219 l2).bind fun t231 => ((impl_MergeRanges.f kj7 l0 t222).bind fun t234 => ((laws_sameRanges.f kj7 t231 t234).bind fun t237 => (some t237)))) else (some true))) else (some true))) else (some false)))))) else (some false))) = some r := by rw [if_neg (show ¬ (false = true) by decide)] at H; exact H
              clear H
              have H := H1
              clear H1
              obtain ⟨y213, hy213⟩ : ∃ y_ : List (S24), y_ = (([(⟨1, 2⟩ : S24)] : List (S24))) := ⟨_, rfl⟩
              replace H : ((impl_MergeRanges.f kj7 y213 ([] : List (S24))).bind fun t216 => (if (t216.length : Int) = 1 then ((impl_MergeRanges.f kj7 l0 l1).bind fun t219 => ((impl_MergeRanges.f kj7 l1 l2).bind fun t222 => ((impl_MergeRanges.f kj7 l1 l0).bind fun t225 => ((laws_sameRanges.f kj7 t219 t225).bind fun t228 => (if t228 = true then ((spec_NoneInside.f kj7 t219 l2).bind fun t229 => (if t229 = true then ((spec_NoneInside.f kj7 l0 t222).bind fun t230 => (if t230 = true then ((impl_MergeRanges.f kj7 t219 l2).bind fun t231 => ((impl_MergeRanges.f kj7 l0 t222).bind fun t234 => ((laws_sameRanges.f kj7 t231 t234).bind fun t237 => (some t237)))) else (some true))) else (some true))) else (some false)))))) else (some false))) = some r := by first | (rw [hy213]; with_reducible exact H) | (have H2_ := (Option.bind_some _ _).symm.trans H; rw [hy213]; with_reducible exact H2_) | (have H2_ := (Option.bind_some _ _).symm.trans H; with_reducible exact H2_) | with_reducible exact H | (rw [hy213]; exact H) | exact H
              have Ny213 := Aside0.mk hy213
              clear hy213
              replace H := Option.bind_eq_some_iff.mp H
              obtain ⟨t216, A370, H⟩ := H
              replace H : (if (t216.length : Int) = 1 then ((impl_MergeRanges.f kj7 l0 l1).bind fun t219 => ((impl_MergeRanges.f kj7 l1 l2).bind fun t222 => ((impl_MergeRanges.f kj7 l1 l0).bind fun t225 => ((laws_sameRanges.f kj7 t219 t225).bind fun t228 => (if t228 = true then ((spec_NoneInside.f kj7 t219 l2).bind fun t229 => (if t229 = true then ((spec_NoneInside.f kj7 l0 t222).bind fun t230 => (if t230 = true then ((impl_MergeRanges.f kj7 t219 l2).bind fun t231 => ((impl_MergeRanges.f kj7 l0 t222).bind fun t234 => ((laws_sameRanges.f kj7 t231 t234).bind fun t237 => (some t237)))) else (some true))) else (some true))) else (some false)))))) else (some false)) = some r := H
              have A37 := Aside0.mk A370
              clear A370
              by_cases c38 : (t216.length : Int) = 1
              · rw [if_pos c38] at H
                have c38b0 : ((t216.length : Int) == 1) = true := beq_iff_eq.mpr c38
                have c38b1 : ((t216.length : Int) != 1) = false := bne_eq_false_iff_eq.mpr c38
                clear c38
                replace H := Option.bind_eq_some_iff.mp H
                obtain ⟨t219, A390, H⟩ := H
                replace H : ((impl_MergeRanges.f kj7 l1 l2).bind fun t222 => ((impl_MergeRanges.f kj7 l1 l0).bind fun t225 => ((laws_sameRanges.f kj7 t219 t225).bind fun t228 => (if t228 = true then ((spec_NoneInside.f kj7 t219 l2).bind fun t229 => (if t229 = true then ((spec_NoneInside.f kj7 l0 t222).bind fun t230 => (if t230 = true then ((impl_MergeRanges.f kj7 t219 l2).bind fun t231 => ((impl_MergeRanges.f kj7 l0 t222).bind fun t234 => ((laws_sameRanges.f kj7 t231 t234).bind fun t237 => (some t237)))) else (some true))) else (some true))) else (some false))))) = some r := H
                have A39 := Aside0.mk A390
                clear A390
                replace H := Option.bind_eq_some_iff.mp H
                obtain ⟨t222, A400, H⟩ := H
                replace H : ((impl_MergeRanges.f kj7 l1 l0).bind fun t225 => ((laws_sameRanges.f kj7 t219 t225).bind fun t228 => (if t228 = true then ((spec_NoneInside.f kj7 t219 l2).bind fun t229 => (if t229 = true then ((spec_NoneInside.f kj7 l0 t222).bind fun t230 => (if t230 = true then ((impl_MergeRanges.f kj7 t219 l2).bind fun t231 => ((impl_MergeRanges.f kj7 l0 t222).bind fun t234 => ((laws_sameRanges.f kj7 t231 t234).bind fun t237 => (some t237)))) else (some true))) else (some true))) else (some false)))) = some r := H
                have A40 := Aside0.mk A400
                clear A400
                replace H := Option.bind_eq_some_iff.mp H
                obtain ⟨t225, A410, H⟩ := H
                replace H : ((laws_sameRanges.f kj7 t219 t225).bind fun t228 => (if t228 = true then ((spec_NoneInside.f kj7 t219 l2).bind fun t229 => (if t229 = true then ((spec_NoneInside.f kj7 l0 t222).bind fun t230 => (if t230 = true then ((impl_MergeRanges.f kj7 t219 l2).bind fun t231 => ((impl_MergeRanges.f kj7 l0 t222).bind fun t234 => ((laws_sameRanges.f kj7 t231 t234).bind fun t237 => (some t237)))) else (some true))) else (some true))) else (some false))) = some r := H
                have A41 := Aside0.mk A410
                clear A410
                replace H := Option.bind_eq_some_iff.mp H
                obtain ⟨t228, A420, H⟩ := H
                replace H : (if t228 = true then ((spec_NoneInside.f kj7 t219 l2).bind fun t229 => (if t229 = true then ((spec_NoneInside.f kj7 l0 t222).bind fun t230 => (if t230 = true then ((impl_MergeRanges.f kj7 t219 l2).bind fun t231 => ((impl_MergeRanges.f kj7 l0 t222).bind fun t234 => ((laws_sameRanges.f kj7 t231 t234).bind fun t237 => (some t237)))) else (some true))) else (some true))) else (some false)) = some r := H
                have A42 := Aside0.mk A420
                clear A420
                by_cases c43 : t228 = true
                · subst c43
                  have H1 : ((spec_NoneInside.f kj7 t219 l2).bind fun t229 => (if t229 = true then ((spec_NoneInside.f kj7 l0 t222).bind fun t230 => (if t230 = true then ((impl_MergeRanges.f kj7 t219 l2).bind fun t231 => ((impl_MergeRanges.f kj7 l0 t222).bind fun t234 => ((laws_sameRanges.f kj7 t231 t234).bind fun t237 => (some t237)))) else (some true))) else (some true))) = some r := by rw [if_pos rfl] at H; exact H
                  clear H
                  have H := H1
                  clear H1
                  replace H := Option.bind_eq_some_iff.mp H
                  obtain ⟨t229, A440, H⟩ := H
                  replace H : (if t229 = true then ((spec_NoneInside.f kj7 l0 t222).bind fun t230 => (if t230 = true then ((impl_MergeRanges.f kj7 t219 l2).bind fun t231 => ((impl_MergeRanges.f kj7 l0 t222).bind fun t234 => ((laws_sameRanges.f kj7 t231 t234).bind fun t237 => (some t237)))) else (some true))) else (some true)) = some r := H
                  have A44 := Aside0.mk A440
                  clear A440
                  by_cases c45 : t229 = true
                  · subst c45
                    have H1 : ((spec_NoneInside.f kj7 l0 t222).bind fun t230 => (if t230 = true then ((impl_MergeRanges.f kj7 t219 l2).bind fun t231 => ((impl_MergeRanges.f kj7 l0 t222).bind fun t234 => ((laws_sameRanges.f kj7 t231 t234).bind fun t237 => (some t237)))) else (some true))) = some r := by rw [if_pos rfl] at H; exact H
                    clear H
                    have H := H1
                    clear H1
                    replace H := Option.bind_eq_some_iff.mp H
                    obtain ⟨t230, A460, H⟩ := H
                    replace H : (if t230 = true then ((impl_MergeRanges.f kj7 t219 l2).bind fun t231 => ((impl_MergeRanges.f kj7 l0 t222).bind fun t234 => ((laws_sameRanges.f kj7 t231 t234).bind fun t237 => (some t237)))) else (some true)) = some r := H
                    have A46 := Aside0.mk A460
                    clear A460
                    by_cases c47 : t230 = true
                    · subst c47
                      have H1 : ((impl_MergeRanges.f kj7 t219 l2).bind fun t231 => ((impl_MergeRanges.f kj7 l0 t222).bind fun t234 => ((laws_sameRanges.f kj7 t231 t234).bind fun t237 => (some t237)))) = some r := by rw [if_pos rfl] at H; exact H
                      clear H
                      have H := H1
                      clear H1
                      replace H := Option.bind_eq_some_iff.mp H
                      obtain ⟨t231, A480, H⟩ := H
                      replace H : ((impl_MergeRanges.f kj7 l0 t222).bind fun t234 => ((laws_sameRanges.f kj7 t231 t234).bind fun t237 => (some t237))) = some r := H
                      have A48 := Aside0.mk A480
                      clear A480
                      replace H := Option.bind_eq_some_iff.mp H
                      obtain ⟨t234, A490, H⟩ := H
                      replace H : ((laws_sameRanges.f kj7 t231 t234).bind fun t237 => (some t237)) = some r := H
                      have A49 := Aside0.mk A490
                      clear A490
                      replace H := Option.bind_eq_some_iff.mp H
                      obtain ⟨t237, A500, H⟩ := H
                      replace H : (some t237) = some r := H
                      have A50 := Aside0.mk A500
                      clear A500
                      obtain rfl := Option.some.inj H
                      go_wp2_with (first | ((with_reducible refine gate_dst (N := 63) rfl ?_); (try (refine gate_guard (by rfl) ?_; dsimp only)); refine Kd.R_lit k24 _ 24 ?hg (N := 63) ?hd (xs := ([(⟨1, 2⟩ : S24)] : List (S24))) (inner := [.int .i64 1, .int .i64 2]) (ok := fun _ => True) (okp := fun _ => True) ?hr ?hp (fun _ hk => hk) trivial (Below.refl _ _) (Nat.le_refl _) (by simp) ?_; (case hd => rfl); (case hg => rfl); (case hr => first | (go_simp; done) | (go_simp; rfl)); (case hp => exact (Reps.c2 (show Kd.M k24 _ _ _ (⟨1, 2⟩ : S24) [.int .i64 1, .int .i64 2] from (k24_mkM _ _ _ (⟨1, 2⟩ : S24) )) (Reps.none _ _))); intro v214 w51 ho52 hb hg_ hnew_; clear hg_ hnew_; (first | rw [← Ny213.out] at ho52 | (simp only [Int.reduceToNat] at ho52; rw [← Ny213.out] at ho52)); have n0_ := Aside0.mk (Kd.R_lower ho52 (below_size (by repeat (first | (with_reducible first | exact HB.out | apply below_alloc | apply pw_below_drewN | apply below_drew1) | exact HB.out)))); have n1_ := Aside0.mk (below_step (by repeat (first | (with_reducible first | exact HB.out | apply below_alloc | apply pw_below_drewN | apply below_drew1) | exact HB.out)) hb); clear HB; have HO215 := n0_; have HB := n1_; clear n0_ n1_; clear hb ho52; obtain ⟨Ao53, co53, eo53⟩ := Kd.R_slice HO215.out; subst eo53) | ((with_reducible refine gate_callee (f := 15) rfl ?_); refine goesL_ (some 64) rfl rfl Try.func15 (by kernel_rfl) rfl #[.slice Ao53 y213.length co53, .slice none 0 0] rfl (by (try simp only [List.map_toArray, List.map_cons, List.map_nil]); first | done | rfl | (simp only [List.length_drop, List.length_take]; rfl)) ?_; (refine (impl_MergeRanges.calls kj7 _ _ y213 _ _ ([] : List (S24)) t216 _ ?side1 ?side2 ?side3 ?side4 A37.out).mono ?_); (case side1 => repeat (first | exact (Kd.R_reads' HO215.out).2.2 | (with_reducible refine Kd.C_alloc ?_ _) | (with_reducible refine Kd.C_drewN ?_ _) | (with_reducible refine Kd.C_drew ?_))); (case side2 => exact (Kd.R_reads' HO215.out).2.1); (case side3 => exact Kd.C_nil _ _); (case side4 => exact Nat.le_refl _); rintro e w54 ⟨v217, rfl, ho0, hb⟩; refine ⟨_, rfl, ?_⟩; have n0_ := Aside0.mk (Kd.R_elder' (by (with_reducible repeat (first | apply Kd.R_alloc | apply Kd.R_drewN | apply Kd.R_drew)); exact HO215.out) (Kd.R_base ho0) hb); have n1_ := Aside0.mk (Kd.R_lower (Kd.R_new' ho0 (Kd.R_lt (by (with_reducible repeat (first | apply Kd.R_alloc | apply Kd.R_drewN | apply Kd.R_drew)); exact HO215.out))) (below_size (by repeat (first | (with_reducible first | exact HB.out | apply below_alloc | apply pw_below_drewN | apply below_drew1) | exact HB.out)))); have n2_ := Aside0.mk (below_step (by repeat (first | (with_reducible first | exact HB.out | apply below_alloc | apply pw_below_drewN | apply below_drew1) | exact HB.out)) hb); clear HO215; clear HB; have HO215 := n0_; have HO218 := n1_; have HB := n2_; clear n0_ n1_ n2_; (try clear hb); (try clear hb2); (try clear hk); (try clear hi); (try clear ho0); obtain ⟨Ao55, co55, eo55⟩ := Kd.R_slice HO218.out; subst eo55) | ((with_reducible refine gate_callee (f := 15) rfl ?_); refine goesL_ (some 69) rfl rfl Try.func15 (by kernel_rfl) rfl #[.slice A0 l0.length c0, .slice A1 l1.length c1] rfl (by (try simp only [List.map_toArray, List.map_cons, List.map_nil]); first | done | rfl | (simp only [List.length_drop, List.length_take]; rfl)) ?_; (with_reducible refine (impl_MergeRanges.calls kj7 _ _ l0 _ _ l1 t219 _ ?side1 ?side2 ?side3 ?side4 A39.out).mono ?_); (case side1 => repeat (first | exact (Kd.C_below HR0.out HB.out) | (with_reducible refine Kd.C_alloc ?_ _) | (with_reducible refine Kd.C_drewN ?_ _) | (with_reducible refine Kd.C_drew ?_))); (case side2 => exact HC0.out); (case side3 => repeat (first | exact (Kd.C_below HR1.out HB.out) | (with_reducible refine Kd.C_alloc ?_ _) | (with_reducible refine Kd.C_drewN ?_ _) | (with_reducible refine Kd.C_drew ?_))); (case side4 => exact HC1.out); rintro e w56 ⟨v220, rfl, ho0, hb⟩; refine ⟨_, rfl, ?_⟩; have n0_ := Aside0.mk (Kd.R_elder' (by (with_reducible repeat (first | apply Kd.R_alloc | apply Kd.R_drewN | apply Kd.R_drew)); exact HO215.out) (Kd.R_base ho0) hb); have n1_ := Aside0.mk (Kd.R_elder' (by (with_reducible repeat (first | apply Kd.R_alloc | apply Kd.R_drewN | apply Kd.R_drew)); exact HO218.out) (Kd.R_base ho0) hb); have n2_ := Aside0.mk (Kd.R_lower (Kd.R_new' (Kd.R_new' ho0 (Kd.R_lt (by (with_reducible repeat (first | apply Kd.R_alloc | apply Kd.R_drewN | apply Kd.R_drew)); exact HO215.out))) (Kd.R_lt (by (with_reducible repeat (first | apply Kd.R_alloc | apply Kd.R_drewN | apply Kd.R_drew)); exact HO218.out))) (below_size (by repeat (first | (with_reducible first | exact HB.out | apply below_alloc | apply pw_below_drewN | apply below_drew1) | exact HB.out)))); have n3_ := Aside0.mk (below_step (by repeat (first | (with_reducible first | exact HB.out | apply below_alloc | apply pw_below_drewN | apply below_drew1) | exact HB.out)) hb); clear HO215; clear HO218; clear HB; have HO215 := n0_; have HO218 := n1_; have HO221 := n2_; have HB := n3_; clear n0_ n1_ n2_ n3_; (try clear hb); (try clear hb2); (try clear hk); (try clear hi); (try clear ho0)) | ((with_reducible refine gate_callee (f := 15) rfl ?_); refine goesL_ (some 72) rfl rfl Try.func15 (by kernel_rfl) rfl #[.slice A1 l1.length c1, .slice A2 l2.length c2] rfl (by (try simp only [List.map_toArray, List.map_cons, List.map_nil]); first | done | rfl | (simp only [List.length_drop, List.length_take]; rfl)) ?_; (with_reducible refine (impl_MergeRanges.calls kj7 _ _ l1 _ _ l2 t222 _ ?side1 ?side2 ?side3 ?side4 A40.out).mono ?_); (case side1 => repeat (first | exact (Kd.C_below HR1.out HB.out) | (with_reducible refine Kd.C_alloc ?_ _) | (with_reducible refine Kd.C_drewN ?_ _) | (with_reducible refine Kd.C_drew ?_))); (case side2 => exact HC1.out); (case side3 => repeat (first | exact (Kd.C_below HR2.out HB.out) | (with_reducible refine Kd.C_alloc ?_ _) | (with_reducible refine Kd.C_drewN ?_ _) | (with_reducible refine Kd.C_drew ?_))); (case side4 => exact HC2.out); rintro e w57 ⟨v223, rfl, ho0, hb⟩; refine ⟨_, rfl, ?_⟩; have n0_ := Aside0.mk (Kd.R_elder' (by (with_reducible repeat (first | apply Kd.R_alloc | apply Kd.R_drewN | apply Kd.R_drew)); exact HO215.out) (Kd.R_base ho0) hb); have n1_ := Aside0.mk (Kd.R_elder' (by (with_reducible repeat (first | apply Kd.R_alloc | apply Kd.R_drewN | apply Kd.R_drew)); exact HO218.out) (Kd.R_base ho0) hb); have n2_ := Aside0.mk (Kd.R_elder' (by (with_reducible repeat (first | apply Kd.R_alloc | apply Kd.R_drewN | apply Kd.R_drew)); exact HO221.out) (Kd.R_base ho0) hb); have n3_ := Aside0.mk (Kd.R_lower (Kd.R_new' (Kd.R_new' (Kd.R_new' ho0 (Kd.R_lt (by (with_reducible repeat (first | apply Kd.R_alloc | apply Kd.R_drewN | apply Kd.R_drew)); exact HO215.out))) (Kd.R_lt (by (with_reducible repeat (first | apply Kd.R_alloc | apply Kd.R_drewN | apply Kd.R_drew)); exact HO218.out))) (Kd.R_lt (by (with_reducible repeat (first | apply Kd.R_alloc | apply Kd.R_drewN | apply Kd.R_drew)); exact HO221.out))) (below_size (by repeat (first | (with_reducible first | exact HB.out | apply below_alloc | apply pw_below_drewN | apply below_drew1) | exact HB.out)))); have n4_ := Aside0.mk (below_step (by repeat (first | (with_reducible first | exact HB.out | apply below_alloc | apply pw_below_drewN | apply below_drew1) | exact HB.out)) hb); clear HO215; clear HO218; clear HO221; clear HB; have HO215 := n0_; have HO218 := n1_; have HO221 := n2_; have HO224 := n3_; have HB := n4_; clear n0_ n1_ n2_ n3_ n4_; (try clear hb); (try clear hb2); (try clear hk); (try clear hi); (try clear ho0)) | ((with_reducible refine gate_callee (f := 15) rfl ?_); refine goesL_ (some 76) rfl rfl Try.func15 (by kernel_rfl) rfl #[.slice A1 l1.length c1, .slice A0 l0.length c0] rfl (by (try simp only [List.map_toArray, List.map_cons, List.map_nil]); first | done | rfl | (simp only [List.length_drop, List.length_take]; rfl)) ?_; (with_reducible refine (impl_MergeRanges.calls kj7 _ _ l1 _ _ l0 t225 _ ?side1 ?side2 ?side3 ?side4 A41.out).mono ?_); (case side1 => repeat (first | exact (Kd.C_below HR1.out HB.out) | (with_reducible refine Kd.C_alloc ?_ _) | (with_reducible refine Kd.C_drewN ?_ _) | (with_reducible refine Kd.C_drew ?_))); (case side2 => exact HC1.out); (case side3 => repeat (first | exact (Kd.C_below HR0.out HB.out) | (with_reducible refine Kd.C_alloc ?_ _) | (with_reducible refine Kd.C_drewN ?_ _) | (with_reducible refine Kd.C_drew ?_))); (case side4 => exact HC0.out); rintro e w58 ⟨v226, rfl, ho0, hb⟩; refine ⟨_, rfl, ?_⟩; have n0_ := Aside0.mk (Kd.R_elder' (by (with_reducible repeat (first | apply Kd.R_alloc | apply Kd.R_drewN | apply Kd.R_drew)); exact HO215.out) (Kd.R_base ho0) hb); have n1_ := Aside0.mk (Kd.R_elder' (by (with_reducible repeat (first | apply Kd.R_alloc | apply Kd.R_drewN | apply Kd.R_drew)); exact HO218.out) (Kd.R_base ho0) hb); have n2_ := Aside0.mk (Kd.R_elder' (by (with_reducible repeat (first | apply Kd.R_alloc | apply Kd.R_drewN | apply Kd.R_drew)); exact HO221.out) (Kd.R_base ho0) hb); have n3_ := Aside0.mk (Kd.R_elder' (by (with_reducible repeat (first | apply Kd.R_alloc | apply Kd.R_drewN | apply Kd.R_drew)); exact HO224.out) (Kd.R_base ho0) hb); have n4_ := Aside0.mk (Kd.R_lower (Kd.R_new' (Kd.R_new' (Kd.R_new' (Kd.R_new' ho0 (Kd.R_lt (by (with_reducible repeat (first | apply Kd.R_alloc | apply Kd.R_drewN | apply Kd.R_drew)); exact HO215.out))) (Kd.R_lt (by (with_reducible repeat (first | apply Kd.R_alloc | apply Kd.R_drewN | apply Kd.R_drew)); exact HO218.out))) (Kd.R_lt (by (with_reducible repeat (first | apply Kd.R_alloc | apply Kd.R_drewN | apply Kd.R_drew)); exact HO221.out))) (Kd.R_lt (by (with_reducible repeat (first | apply Kd.R_alloc | apply Kd.R_drewN | apply Kd.R_drew)); exact HO224.out))) (below_size (by repeat (first | (with_reducible first | exact HB.out | apply below_alloc | apply pw_below_drewN | apply below_drew1) | exact HB.out)))); have n5_ := Aside0.mk (below_step (by repeat (first | (with_reducible first | exact HB.out | apply below_alloc | apply pw_below_drewN | apply below_drew1) | exact HB.out)) hb); clear HO215; clear HO218; clear HO221; clear HO224; clear HB; have HO215 := n0_; have HO218 := n1_; have HO221 := n2_; have HO224 := n3_; have HO227 := n4_; have HB := n5_; clear n0_ n1_ n2_ n3_ n4_ n5_; (try clear hb); (try clear hb2); (try clear hk); (try clear hi); (try clear ho0); obtain ⟨Ao59, co59, eo59⟩ := Kd.R_slice HO221.out; subst eo59; obtain ⟨Ao60, co60, eo60⟩ := Kd.R_slice HO227.out; subst eo60) | ((with_reducible refine gate_callee (f := 12) rfl ?_); refine goesL_ (some 77) rfl rfl Try.func12 (by kernel_rfl) rfl #[.slice Ao59 t219.length co59, .slice Ao60 t225.length co60] rfl (by (try simp only [List.map_toArray, List.map_cons, List.map_nil]); first | done | rfl | (simp only [List.length_drop, List.length_take]; rfl)) ?_; (with_reducible refine (laws_sameRanges.calls kj7 _ _ t219 _ _ t225 true _ ?side1 ?side2 ?side3 ?side4 A42.out).mono ?_); (case side1 => repeat (first | exact (Kd.R_reads' HO221.out).2.2 | (with_reducible refine Kd.C_alloc ?_ _) | (with_reducible refine Kd.C_drewN ?_ _) | (with_reducible refine Kd.C_drew ?_))); (case side2 => exact (Kd.R_reads' HO221.out).2.1); (case side3 => repeat (first | exact (Kd.R_reads' HO227.out).2.2 | (with_reducible refine Kd.C_alloc ?_ _) | (with_reducible refine Kd.C_drewN ?_ _) | (with_reducible refine Kd.C_drew ?_))); (case side4 => exact (Kd.R_reads' HO227.out).2.1); rintro e w' ⟨rfl, ⟨nd, rfl⟩⟩; refine ⟨_, rfl, ?_⟩) | ((with_reducible refine gate_callee (f := 14) rfl ?_); refine goesL_ (some 81) rfl rfl Try.func14 (by kernel_rfl) rfl #[.slice Ao59 t219.length co59, .slice A2 l2.length c2] rfl (by (try simp only [List.map_toArray, List.map_cons, List.map_nil]); first | done | rfl | (simp only [List.length_drop, List.length_take]; rfl)) ?_; (with_reducible refine (spec_NoneInside.calls kj7 _ _ t219 _ _ l2 true _ ?side1 ?side2 ?side3 ?side4 A44.out).mono ?_); (case side1 => repeat (first | exact (Kd.R_reads' HO221.out).2.2 | (with_reducible refine Kd.C_alloc ?_ _) | (with_reducible refine Kd.C_drewN ?_ _) | (with_reducible refine Kd.C_drew ?_))); (case side2 => exact (Kd.R_reads' HO221.out).2.1); (case side3 => repeat (first | exact (Kd.C_below HR2.out (by repeat (first | (with_reducible first | exact HB.out | apply below_alloc | apply pw_below_drewN | apply below_drew1) | exact HB.out))) | (with_reducible refine Kd.C_alloc ?_ _) | (with_reducible refine Kd.C_drewN ?_ _) | (with_reducible refine Kd.C_drew ?_))); (case side4 => exact HC2.out); rintro e w61 ⟨rfl, hb⟩; refine ⟨_, rfl, ?_⟩; have n0_ := Aside0.mk (Kd.R_below (by (with_reducible repeat (first | apply Kd.R_alloc | apply Kd.R_drewN | apply Kd.R_drew)); exact HO215.out) hb); have n1_ := Aside0.mk (Kd.R_below (by (with_reducible repeat (first | apply Kd.R_alloc | apply Kd.R_drewN | apply Kd.R_drew)); exact HO218.out) hb); have n2_ := Aside0.mk (Kd.R_below (by (with_reducible repeat (first | apply Kd.R_alloc | apply Kd.R_drewN | apply Kd.R_drew)); exact HO221.out) hb); have n3_ := Aside0.mk (Kd.R_below (by (with_reducible repeat (first | apply Kd.R_alloc | apply Kd.R_drewN | apply Kd.R_drew)); exact HO224.out) hb); have n4_ := Aside0.mk (Kd.R_below (by (with_reducible repeat (first | apply Kd.R_alloc | apply Kd.R_drewN | apply Kd.R_drew)); exact HO227.out) hb); have n5_ := Aside0.mk (below_step (by repeat (first | (with_reducible first | exact HB.out | apply below_alloc | apply pw_below_drewN | apply below_drew1) | exact HB.out)) hb); clear HO215; clear HO218; clear HO221; clear HO224; clear HO227; clear HB; have HO215 := n0_; have HO218 := n1_; have HO221 := n2_; have HO224 := n3_; have HO227 := n4_; have HB := n5_; clear n0_ n1_ n2_ n3_ n4_ n5_; (try clear hb); (try clear hb2); (try clear hk); (try clear hi); obtain ⟨Ao62, co62, eo62⟩ := Kd.R_slice HO224.out; subst eo62) | (go_at_call 14; (with_reducible refine (spec_NoneInside.calls kj7 _ _ l0 _ _ t222 true _ ?side1 ?side2 ?side3 ?side4 A46.out).mono ?_); (case side1 => repeat (first | exact (Kd.C_below HR0.out HB.out) | (with_reducible refine Kd.C_alloc ?_ _) | (with_reducible refine Kd.C_drewN ?_ _) | (with_reducible refine Kd.C_drew ?_))); (case side2 => exact HC0.out); (case side3 => repeat (first | exact (Kd.R_reads' HO224.out).2.2 | (with_reducible refine Kd.C_alloc ?_ _) | (with_reducible refine Kd.C_drewN ?_ _) | (with_reducible refine Kd.C_drew ?_))); (case side4 => exact (Kd.R_reads' HO224.out).2.1); rintro e w63 ⟨rfl, hb⟩; have n0_ := Aside0.mk (Kd.R_below (by (with_reducible repeat (first | apply Kd.R_alloc | apply Kd.R_drewN | apply Kd.R_drew)); exact HO215.out) hb); have n1_ := Aside0.mk (Kd.R_below (by (with_reducible repeat (first | apply Kd.R_alloc | apply Kd.R_drewN | apply Kd.R_drew)); exact HO218.out) hb); have n2_ := Aside0.mk (Kd.R_below (by (with_reducible repeat (first | apply Kd.R_alloc | apply Kd.R_drewN | apply Kd.R_drew)); exact HO221.out) hb); have n3_ := Aside0.mk (Kd.R_below (by (with_reducible repeat (first | apply Kd.R_alloc | apply Kd.R_drewN | apply Kd.R_drew)); exact HO224.out) hb); have n4_ := Aside0.mk (Kd.R_below (by (with_reducible repeat (first | apply Kd.R_alloc | apply Kd.R_drewN | apply Kd.R_drew)); exact HO227.out) hb); have n5_ := Aside0.mk (below_step (by repeat (first | (with_reducible first | exact HB.out | apply below_alloc | apply pw_below_drewN | apply below_drew1) | exact HB.out)) hb); clear HO215; clear HO218; clear HO221; clear HO224; clear HO227; clear HB; have HO215 := n0_; have HO218 := n1_; have HO221 := n2_; have HO224 := n3_; have HO227 := n4_; have HB := n5_; clear n0_ n1_ n2_ n3_ n4_ n5_; (try clear hb); (try clear hb2); (try clear hk); (try clear hi)) | (go_at_call 15; (with_reducible refine (impl_MergeRanges.calls kj7 _ _ t219 _ _ l2 t231 _ ?side1 ?side2 ?side3 ?side4 A48.out).mono ?_); (case side1 => repeat (first | exact (Kd.R_reads' HO221.out).2.2 | (with_reducible refine Kd.C_alloc ?_ _) | (with_reducible refine Kd.C_drewN ?_ _) | (with_reducible refine Kd.C_drew ?_))); (case side2 => exact (Kd.R_reads' HO221.out).2.1); (case side3 => repeat (first | exact (Kd.C_below HR2.out HB.out) | (with_reducible refine Kd.C_alloc ?_ _) | (with_reducible refine Kd.C_drewN ?_ _) | (with_reducible refine Kd.C_drew ?_))); (case side4 => exact HC2.out); rintro e w64 ⟨v232, rfl, ho0, hb⟩; have n0_ := Aside0.mk (Kd.R_elder' (by (with_reducible repeat (first | apply Kd.R_alloc | apply Kd.R_drewN | apply Kd.R_drew)); exact HO215.out) (Kd.R_base ho0) hb); have n1_ := Aside0.mk (Kd.R_elder' (by (with_reducible repeat (first | apply Kd.R_alloc | apply Kd.R_drewN | apply Kd.R_drew)); exact HO218.out) (Kd.R_base ho0) hb); have n2_ := Aside0.mk (Kd.R_elder' (by (with_reducible repeat (first | apply Kd.R_alloc | apply Kd.R_drewN | apply Kd.R_drew)); exact HO221.out) (Kd.R_base ho0) hb); have n3_ := Aside0.mk (Kd.R_elder' (by (with_reducible repeat (first | apply Kd.R_alloc | apply Kd.R_drewN | apply Kd.R_drew)); exact HO224.out) (Kd.R_base ho0) hb); have n4_ := Aside0.mk (Kd.R_elder' (by (with_reducible repeat (first | apply Kd.R_alloc | apply Kd.R_drewN | apply Kd.R_drew)); exact HO227.out) (Kd.R_base ho0) hb); have n5_ := Aside0.mk (Kd.R_lower (Kd.R_new' (Kd.R_new' (Kd.R_new' (Kd.R_new' (Kd.R_new' ho0 (Kd.R_lt (by (with_reducible repeat (first | apply Kd.R_alloc | apply Kd.R_drewN | apply Kd.R_drew)); exact HO215.out))) (Kd.R_lt (by (with_reducible repeat (first | apply Kd.R_alloc | apply Kd.R_drewN | apply Kd.R_drew)); exact HO218.out))) (Kd.R_lt (by (with_reducible repeat (first | apply Kd.R_alloc | apply Kd.R_drewN | apply Kd.R_drew)); exact HO221.out))) (Kd.R_lt (by (with_reducible repeat (first | apply Kd.R_alloc | apply Kd.R_drewN | apply Kd.R_drew)); exact HO224.out))) (Kd.R_lt (by (with_reducible repeat (first | apply Kd.R_alloc | apply Kd.R_drewN | apply Kd.R_drew)); exact HO227.out))) (below_size (by repeat (first | (with_reducible first | exact HB.out | apply below_alloc | apply pw_below_drewN | apply below_drew1) | exact HB.out)))); have n6_ := Aside0.mk (below_step (by repeat (first | (with_reducible first | exact HB.out | apply below_alloc | apply pw_below_drewN | apply below_drew1) | exact HB.out)) hb); clear HO215; clear HO218; clear HO221; clear HO224; clear HO227; clear HB; have HO215 := n0_; have HO218 := n1_; have HO221 := n2_; have HO224 := n3_; have HO227 := n4_; have HO233 := n5_; have HB := n6_; clear n0_ n1_ n2_ n3_ n4_ n5_ n6_; (try clear hb); (try clear hb2); (try clear hk); (try clear hi); (try clear ho0)) | (go_at_call 15; (with_reducible refine (impl_MergeRanges.calls kj7 _ _ l0 _ _ t222 t234 _ ?side1 ?side2 ?side3 ?side4 A49.out).mono ?_); (case side1 => repeat (first | exact (Kd.C_below HR0.out HB.out) | (with_reducible refine Kd.C_alloc ?_ _) | (with_reducible refine Kd.C_drewN ?_ _) | (with_reducible refine Kd.C_drew ?_))); (case side2 => exact HC0.out); (case side3 => repeat (first | exact (Kd.R_reads' HO224.out).2.2 | (with_reducible refine Kd.C_alloc ?_ _) | (with_reducible refine Kd.C_drewN ?_ _) | (with_reducible refine Kd.C_drew ?_))); (case side4 => exact (Kd.R_reads' HO224.out).2.1); rintro e w65 ⟨v235, rfl, ho0, hb⟩; have n0_ := Aside0.mk (Kd.R_elder' (by (with_reducible repeat (first | apply Kd.R_alloc | apply Kd.R_drewN | apply Kd.R_drew)); exact HO215.out) (Kd.R_base ho0) hb); have n1_ := Aside0.mk (Kd.R_elder' (by (with_reducible repeat (first | apply Kd.R_alloc | apply Kd.R_drewN | apply Kd.R_drew)); exact HO218.out) (Kd.R_base ho0) hb); have n2_ := Aside0.mk (Kd.R_elder' (by (with_reducible repeat (first | apply Kd.R_alloc | apply Kd.R_drewN | apply Kd.R_drew)); exact HO221.out) (Kd.R_base ho0) hb); have n3_ := Aside0.mk (Kd.R_elder' (by (with_reducible repeat (first | apply Kd.R_alloc | apply Kd.R_drewN | apply Kd.R_drew)); exact HO224.out) (Kd.R_base ho0) hb); have n4_ := Aside0.mk (Kd.R_elder' (by (with_reducible repeat (first | apply Kd.R_alloc | apply Kd.R_drewN | apply Kd.R_drew)); exact HO227.out) (Kd.R_base ho0) hb); have n5_ := Aside0.mk (Kd.R_elder' (by (with_reducible repeat (first | apply Kd.R_alloc | apply Kd.R_drewN | apply Kd.R_drew)); exact HO233.out) (Kd.R_base ho0) hb); have n6_ := Aside0.mk (Kd.R_lower (Kd.R_new' (Kd.R_new' (Kd.R_new' (Kd.R_new' (Kd.R_new' (Kd.R_new' ho0 (Kd.R_lt (by (with_reducible repeat (first | apply Kd.R_alloc | apply Kd.R_drewN | apply Kd.R_drew)); exact HO215.out))) (Kd.R_lt (by (with_reducible repeat (first | apply Kd.R_alloc | apply Kd.R_drewN | apply Kd.R_drew)); exact HO218.out))) (Kd.R_lt (by (with_reducible repeat (first | apply Kd.R_alloc | apply Kd.R_drewN | apply Kd.R_drew)); exact HO221.out))) (Kd.R_lt (by (with_reducible repeat (first | apply Kd.R_alloc | apply Kd.R_drewN | apply Kd.R_drew)); exact HO224.out))) (Kd.R_lt (by (with_reducible repeat (first | apply Kd.R_alloc | apply Kd.R_drewN | apply Kd.R_drew)); exact HO227.out))) (Kd.R_lt (by (with_reducible repeat (first | apply Kd.R_alloc | apply Kd.R_drewN | apply Kd.R_drew)); exact HO233.out))) (below_size (by repeat (first | (with_reducible first | exact HB.out | apply below_alloc | apply pw_below_drewN | apply below_drew1) | exact HB.out)))); have n7_ := Aside0.mk (below_step (by repeat (first | (with_reducible first | exact HB.out | apply below_alloc | apply pw_below_drewN | apply below_drew1) | exact HB.out)) hb); clear HO215; clear HO218; clear HO221; clear HO224; clear HO227; clear HO233; clear HB; have HO215 := n0_; have HO218 := n1_; have HO221 := n2_; have HO224 := n3_; have HO227 := n4_; have HO233 := n5_; have HO236 := n6_; have HB := n7_; clear n0_ n1_ n2_ n3_ n4_ n5_ n6_ n7_; (try clear hb); (try clear hb2); (try clear hk); (try clear hi); (try clear ho0); obtain ⟨Ao66, co66, eo66⟩ := Kd.R_slice HO233.out; subst eo66; obtain ⟨Ao67, co67, eo67⟩ := Kd.R_slice HO236.out; subst eo67) | (go_at_call 12; (with_reducible refine (laws_sameRanges.calls kj7 _ _ t231 _ _ t234 t237 _ ?side1 ?side2 ?side3 ?side4 A50.out).mono ?_); (case side1 => repeat (first | exact (Kd.R_reads' HO233.out).2.2 | (with_reducible refine Kd.C_alloc ?_ _) | (with_reducible refine Kd.C_drewN ?_ _) | (with_reducible refine Kd.C_drew ?_))); (case side2 => exact (Kd.R_reads' HO233.out).2.1); (case side3 => repeat (first | exact (Kd.R_reads' HO236.out).2.2 | (with_reducible refine Kd.C_alloc ?_ _) | (with_reducible refine Kd.C_drewN ?_ _) | (with_reducible refine Kd.C_drew ?_))); (case side4 => exact (Kd.R_reads' HO236.out).2.1); rintro e w' ⟨rfl, ⟨nd, rfl⟩⟩))
                      go_ret
                      exact ⟨by first | rfl | (simp [errW_none, errW_some] <;> rfl) | (simp [*, errW_none, errW_some] <;> rfl), by repeat (first | (with_reducible first | exact HB.out | apply below_alloc | apply pw_below_drewN | apply below_drew1) | exact HB.out)⟩
                    · replace c47 := Bool.eq_false_iff.mpr c47
                      subst c47
                      have H1 : (some true) = some r := by rw [if_neg (show ¬ (false = true) by decide)] at H; exact H
                      clear H
                      have H := H1
                      clear H1
                      obtain rfl := Option.some.inj H
                      go_wp2_with (first | ((with_reducible refine gate_dst (N := 63) rfl ?_); (try (refine gate_guard (by rfl) ?_; dsimp only)); refine Kd.R_lit k24 _ 24 ?hg (N := 63) ?hd (xs := ([(⟨1, 2⟩ : S24)] : List (S24))) (inner := [.int .i64 1, .int .i64 2]) (ok := fun _ => True) (okp := fun _ => True) ?hr ?hp (fun _ hk => hk) trivial (Below.refl _ _) (Nat.le_refl _) (by simp) ?_; (case hd => rfl); (case hg => rfl); (case hr => first | (go_simp; done) | (go_simp; rfl)); (case hp => exact (Reps.c2 (show Kd.M k24 _ _ _ (⟨1, 2⟩ : S24) [.int .i64 1, .int .i64 2] from (k24_mkM _ _ _ (⟨1, 2⟩ : S24) )) (Reps.none _ _))); intro v214 w68 ho69 hb hg_ hnew_; clear hg_ hnew_; (first | rw [← Ny213.out] at ho69 | (simp only [Int.reduceToNat] at ho69; rw [← Ny213.out] at ho69)); have n0_ := Aside0.mk (Kd.R_lower ho69 (below_size (by repeat (first | (with_reducible first | exact HB.out | apply below_alloc | apply pw_below_drewN | apply below_drew1) | exact HB.out)))); have n1_ := Aside0.mk (below_step (by repeat (first | (with_reducible first | exact HB.out | apply below_alloc | apply pw_below_drewN | apply below_drew1) | exact HB.out)) hb); clear HB; have HO215 := n0_; have HB := n1_; clear n0_ n1_; clear hb ho69; obtain ⟨Ao70, co70, eo70⟩ := Kd.R_slice HO215.out; subst eo70) | ((with_reducible refine gate_callee (f := 15) rfl ?_); refine goesL_ (some 64) rfl rfl Try.func15 (by kernel_rfl) rfl #[.slice Ao70 y213.length co70, .slice none 0 0] rfl (by (try simp only [List.map_toArray, List.map_cons, List.map_nil]); first | done | rfl | (simp only [List.length_drop, List.length_take]; rfl)) ?_; (refine (impl_MergeRanges.calls kj7 _ _ y213 _ _ ([] : List (S24)) t216 _ ?side1 ?side2 ?side3 ?side4 A37.out).mono ?_); (case side1 => repeat (first | exact (Kd.R_reads' HO215.out).2.2 | (with_reducible refine Kd.C_alloc ?_ _) | (with_reducible refine Kd.C_drewN ?_ _) | (with_reducible refine Kd.C_drew ?_))); (case side2 => exact (Kd.R_reads' HO215.out).2.1); (case side3 => exact Kd.C_nil _ _); (case side4 => exact Nat.le_refl _); rintro e w71 ⟨v217, rfl, ho0, hb⟩; refine ⟨_, rfl, ?_⟩; have n0_ := Aside0.mk (Kd.R_elder' (by (with_reducible repeat (first | apply Kd.R_alloc | apply Kd.R_drewN | apply Kd.R_drew)); exact HO215.out) (Kd.R_base ho0) hb); have n1_ := Aside0.mk (Kd.R_lower (Kd.R_new' ho0 (Kd.R_lt (by (with_reducible repeat (first | apply Kd.R_alloc | apply Kd.R_drewN | apply Kd.R_drew)); exact HO215.out))) (below_size (by repeat (first | (with_reducible first | exact HB.out | apply below_alloc | apply pw_below_drewN | apply below_drew1) | exact HB.out)))); have n2_ := Aside0.mk (below_step (by repeat (first | (with_reducible first | exact HB.out | apply below_alloc | apply pw_below_drewN | apply below_drew1) | exact HB.out)) hb); clear HO215; clear HB; have HO215 := n0_; have HO218 := n1_; have HB := n2_; clear n0_ n1_ n2_; (try clear hb); (try clear hb2); (try clear hk); (try clear hi); (try clear ho0); obtain ⟨Ao72, co72, eo72⟩ := Kd.R_slice HO218.out; subst eo72) | ((with_reducible refine gate_callee (f := 15) rfl ?_); refine goesL_ (some 69) rfl rfl Try.func15 (by kernel_rfl) rfl #[.slice A0 l0.length c0, .slice A1 l1.length c1] rfl (by (try simp only [List.map_toArray, List.map_cons, List.map_nil]); first | done | rfl | (simp only [List.length_drop, List.length_take]; rfl)) ?_; (with_reducible refine (impl_MergeRanges.calls kj7 _ _ l0 _ _ l1 t219 _ ?side1 ?side2 ?side3 ?side4 A39.out).mono ?_); (case side1 => repeat (first | exact (Kd.C_below HR0.out HB.out) | (with_reducible refine Kd.C_alloc ?_ _) | (with_reducible refine Kd.C_drewN ?_ _) | (with_reducible refine Kd.C_drew ?_))); (case side2 => exact HC0.out); (case side3 => repeat (first | exact (Kd.C_below HR1.out HB.out) | (with_reducible refine Kd.C_alloc ?_ _) | (with_reducible refine Kd.C_drewN ?_ _) | (with_reducible refine Kd.C_drew ?_))); (case side4 => exact HC1.out); rintro e w73 ⟨v220, rfl, ho0, hb⟩; refine ⟨_, rfl, ?_⟩; have n0_ := Aside0.mk (Kd.R_elder' (by (with_reducible repeat (first | apply Kd.R_alloc | apply Kd.R_drewN | apply Kd.R_drew)); exact HO215.out) (Kd.R_base ho0) hb); have n1_ := Aside0.mk (Kd.R_elder' (by (with_reducible repeat (first | apply Kd.R_alloc | apply Kd.R_drewN | apply Kd.R_drew)); exact HO218.out) (Kd.R_base ho0) hb); have n2_ := Aside0.mk (Kd.R_lower (Kd.R_new' (Kd.R_new' ho0 (Kd.R_lt (by (with_reducible repeat (first | apply Kd.R_alloc | apply Kd.R_drewN | apply Kd.R_drew)); exact HO215.out))) (Kd.R_lt (by (with_reducible repeat (first | apply Kd.R_alloc | apply Kd.R_drewN | apply Kd.R_drew)); exact HO218.out))) (below_size (by repeat (first | (with_reducible first | exact HB.out | apply below_alloc | apply pw_below_drewN | apply below_drew1) | exact HB.out)))); have n3_ := Aside0.mk (below_step (by repeat (first | (with_reducible first | exact HB.out | apply below_alloc | apply pw_below_drewN | apply below_drew1) | exact HB.out)) hb); clear HO215; clear HO218; clear HB; have HO215 := n0_; have HO218 := n1_; have HO221 := n2_; have HB := n3_; clear n0_ n1_ n2_ n3_; (try clear hb); (try clear hb2); (try clear hk); (try clear hi); (try clear ho0)) | ((with_reducible refine gate_callee (f := 15) rfl ?_); refine goesL_ (some 72) rfl rfl Try.func15 (by kernel_rfl) rfl #[.slice A1 l1.length c1, .slice A2 l2.length c2] rfl (by (try simp only [List.map_toArray, List.map_cons, List.map_nil]); first | done | rfl | (simp only [List.length_drop, List.length_take]; rfl)) ?_; (with_reducible refine (impl_MergeRanges.calls kj7 _ _ l1 _ _ l2 t222 _ ?side1 ?side2 ?side3 ?side4 A40.out).mono ?_); (case side1 => repeat (first | exact (Kd.C_below HR1.out HB.out) | (with_reducible refine Kd.C_alloc ?_ _) | (with_reducible refine Kd.C_drewN ?_ _) | (with_reducible refine Kd.C_drew ?_))); (case side2 => exact HC1.out); (case side3 => repeat (first | exact (Kd.C_below HR2.out HB.out) | (with_reducible refine Kd.C_alloc ?_ _) | (with_reducible refine Kd.C_drewN ?_ _) | (with_reducible refine Kd.C_drew ?_))); (case side4 => exact HC2.out); rintro e w74 ⟨v223, rfl, ho0, hb⟩; refine ⟨_, rfl, ?_⟩; have n0_ := Aside0.mk (Kd.R_elder' (by (with_reducible repeat (first | apply Kd.R_alloc | apply Kd.R_drewN | apply Kd.R_drew)); exact HO215.out) (Kd.R_base ho0) hb); have n1_ := Aside0.mk (Kd.R_elder' (by (with_reducible repeat (first | apply Kd.R_alloc | apply Kd.R_drewN | apply Kd.R_drew)); exact HO218.out) (Kd.R_base ho0) hb); have n2_ := Aside0.mk (Kd.R_elder' (by (with_reducible repeat (first | apply Kd.R_alloc | apply Kd.R_drewN | apply Kd.R_drew)); exact HO221.out) (Kd.R_base ho0) hb); have n3_ := Aside0.mk (Kd.R_lower (Kd.R_new' (Kd.R_new' (Kd.R_new' ho0 (Kd.R_lt (by (with_reducible repeat (first | apply Kd.R_alloc | apply Kd.R_drewN | apply Kd.R_drew)); exact HO215.out))) (Kd.R_lt (by (with_reducible repeat (first | apply Kd.R_alloc | apply Kd.R_drewN | apply Kd.R_drew)); exact HO218.out))) (Kd.R_lt (by (with_reducible repeat (first | apply Kd.R_alloc | apply Kd.R_drewN | apply Kd.R_drew)); exact HO221.out))) (below_size (by repeat (first | (with_reducible first | exact HB.out | apply below_alloc | apply pw_below_drewN | apply below_drew1) | exact HB.out)))); have n4_ := Aside0.mk (below_step (by repeat (first | (with_reducible first | exact HB.out | apply below_alloc | apply pw_below_drewN | apply below_drew1) | exact HB.out)) hb); clear HO215; clear HO218; clear HO221; clear HB; have HO215 := n0_; have HO218 := n1_; have HO221 := n2_; have HO224 := n3_; have HB := n4_; clear n0_ n1_ n2_ n3_ n4_; (try clear hb); (try clear hb2); (try clear hk); (try clear hi); (try clear ho0)) | ((with_reducible refine gate_callee (f := 15) rfl ?_); refine goesL_ (some 76) rfl rfl Try.func15 (by kernel_rfl) rfl #[.slice A1 l1.length c1, .slice A0 l0.length c0] rfl (by (try simp only [List.map_toArray, List.map_cons, List.map_nil]); first | done | rfl | (simp only [List.length_drop, List.length_take]; rfl)) ?_; (with_reducible refine (impl_MergeRanges.calls kj7 _ _ l1 _ _ l0 t225 _ ?side1 ?side2 ?side3 ?side4 A41.out).mono ?_); (case side1 => repeat (first | exact (Kd.C_below HR1.out HB.out) | (with_reducible refine Kd.C_alloc ?_ _) | (with_reducible refine Kd.C_drewN ?_ _) | (with_reducible refine Kd.C_drew ?_))); (case side2 => exact HC1.out); (case side3 => repeat (first | exact (Kd.C_below HR0.out HB.out) | (with_reducible refine Kd.C_alloc ?_ _) | (with_reducible refine Kd.C_drewN ?_ _) | (with_reducible refine Kd.C_drew ?_))); (case side4 => exact HC0.out); rintro e w75 ⟨v226, rfl, ho0, hb⟩; refine ⟨_, rfl, ?_⟩; have n0_ := Aside0.mk (Kd.R_elder' (by (with_reducible repeat (first | apply Kd.R_alloc | apply Kd.R_drewN | apply Kd.R_drew)); exact HO215.out) (Kd.R_base ho0) hb); have n1_ := Aside0.mk (Kd.R_elder' (by (with_reducible repeat (first | apply Kd.R_alloc | apply Kd.R_drewN | apply Kd.R_drew)); exact HO218.out) (Kd.R_base ho0) hb); have n2_ := Aside0.mk (Kd.R_elder' (by (with_reducible repeat (first | apply Kd.R_alloc | apply Kd.R_drewN | apply Kd.R_drew)); exact HO221.out) (Kd.R_base ho0) hb); have n3_ := Aside0.mk (Kd.R_elder' (by (with_reducible repeat (first | apply Kd.R_alloc | apply Kd.R_drewN | apply Kd.R_drew)); exact HO224.out) (Kd.R_base ho0) hb); have n4_ := Aside0.mk (Kd.R_lower (Kd.R_new' (Kd.R_new' (Kd.R_new' (Kd.R_new' ho0 (Kd.R_lt (by (with_reducible repeat (first | apply Kd.R_alloc | apply Kd.R_drewN | apply Kd.R_drew)); exact HO215.out))) (Kd.R_lt (by (with_reducible repeat (first | apply Kd.R_alloc | apply Kd.R_drewN | apply Kd.R_drew)); exact HO218.out))) (Kd.R_lt (by (with_reducible repeat (first | apply Kd.R_alloc | apply Kd.R_drewN | apply Kd.R_drew)); exact HO221.out))) (Kd.R_lt (by (with_reducible repeat (first | apply Kd.R_alloc | apply Kd.R_drewN | apply Kd.R_drew)); exact HO224.out))) (below_size (by repeat (first | (with_reducible first | exact HB.out | apply below_alloc | apply pw_below_drewN | apply below_drew1) | exact HB.out)))); have n5_ := Aside0.mk (below_step (by repeat (first | (with_reducible first | exact HB.out | apply below_alloc | apply pw_below_drewN | apply below_drew1) | exact HB.out)) hb); clear HO215; clear HO218; clear HO221; clear HO224; clear HB; have HO215 := n0_; have HO218 := n1_; have HO221 := n2_; have HO224 := n3_; have HO227 := n4_; have HB := n5_; clear n0_ n1_ n2_ n3_ n4_ n5_; (try clear hb); (try clear hb2); (try clear hk); (try clear hi); (try clear ho0); obtain ⟨Ao76, co76, eo76⟩ := Kd.R_slice HO221.out; subst eo76; obtain ⟨Ao77, co77, eo77⟩ := Kd.R_slice HO227.out; subst eo77) | ((with_reducible refine gate_callee (f := 12) rfl ?_); refine goesL_ (some 77) rfl rfl Try.func12 (by kernel_rfl) rfl #[.slice Ao76 t219.length co76, .slice Ao77 t225.length co77] rfl (by (try simp only [List.map_toArray, List.map_cons, List.map_nil]); first | done | rfl | (simp only [List.length_drop, List.length_take]; rfl)) ?_; (with_reducible refine (laws_sameRanges.calls kj7 _ _ t219 _ _ t225 true _ ?side1 ?side2 ?side3 ?side4 A42.out).mono ?_); (case side1 => repeat (first | exact (Kd.R_reads' HO221.out).2.2 | (with_reducible refine Kd.C_alloc ?_ _) | (with_reducible refine Kd.C_drewN ?_ _) | (with_reducible refine Kd.C_drew ?_))); (case side2 => exact (Kd.R_reads' HO221.out).2.1); (case side3 => repeat (first | exact (Kd.R_reads' HO227.out).2.2 | (with_reducible refine Kd.C_alloc ?_ _) | (with_reducible refine Kd.C_drewN ?_ _) | (with_reducible refine Kd.C_drew ?_))); (case side4 => exact (Kd.R_reads' HO227.out).2.1); rintro e w' ⟨rfl, ⟨nd, rfl⟩⟩; refine ⟨_, rfl, ?_⟩) | ((with_reducible refine gate_callee (f := 14) rfl ?_); refine goesL_ (some 81) rfl rfl Try.func14 (by kernel_rfl) rfl #[.slice Ao76 t219.length co76, .slice A2 l2.length c2] rfl (by (try simp only [List.map_toArray, List.map_cons, List.map_nil]); first | done | rfl | (simp only [List.length_drop, List.length_take]; rfl)) ?_; (with_reducible refine (spec_NoneInside.calls kj7 _ _ t219 _ _ l2 true _ ?side1 ?side2 ?side3 ?side4 A44.out).mono ?_); (case side1 => repeat (first | exact (Kd.R_reads' HO221.out).2.2 | (with_reducible refine Kd.C_alloc ?_ _) | (with_reducible refine Kd.C_drewN ?_ _) | (with_reducible refine Kd.C_drew ?_))); (case side2 => exact (Kd.R_reads' HO221.out).2.1); (case side3 => repeat (first | exact (Kd.C_below HR2.out (by repeat (first | (with_reducible first | exact HB.out | apply below_alloc | apply pw_below_drewN | apply below_drew1) | exact HB.out))) | (with_reducible refine Kd.C_alloc ?_ _) | (with_reducible refine Kd.C_drewN ?_ _) | (with_reducible refine Kd.C_drew ?_))); (case side4 => exact HC2.out); rintro e w78 ⟨rfl, hb⟩; refine ⟨_, rfl, ?_⟩; have n0_ := Aside0.mk (Kd.R_below (by (with_reducible repeat (first | apply Kd.R_alloc | apply Kd.R_drewN | apply Kd.R_drew)); exact HO215.out) hb); have n1_ := Aside0.mk (Kd.R_below (by (with_reducible repeat (first | apply Kd.R_alloc | apply Kd.R_drewN | apply Kd.R_drew)); exact HO218.out) hb); have n2_ := Aside0.mk (Kd.R_below (by (with_reducible repeat (first | apply Kd.R_alloc | apply Kd.R_drewN | apply Kd.R_drew)); exact HO221.out) hb); have n3_ := Aside0.mk (Kd.R_below (by (with_reducible repeat (first | apply Kd.R_alloc | apply Kd.R_drewN | apply Kd.R_drew)); exact HO224.out) hb); have n4_ := Aside0.mk (Kd.R_below (by (with_reducible repeat (first | apply Kd.R_alloc | apply Kd.R_drewN | apply Kd.R_drew)); exact HO227.out) hb); have n5_ := Aside0.mk (below_step (by repeat (first | (with_reducible first | exact HB.out | apply below_alloc | apply pw_below_drewN | apply below_drew1) | exact HB.out)) hb); clear HO215; clear HO218; clear HO221; clear HO224; clear HO227; clear HB; have HO215 := n0_; have HO218 := n1_; have HO221 := n2_; have HO224 := n3_; have HO227 := n4_; have HB := n5_; clear n0_ n1_ n2_ n3_ n4_ n5_; (try clear hb); (try clear hb2); (try clear hk); (try clear hi); obtain ⟨Ao79, co79, eo79⟩ := Kd.R_slice HO224.out; subst eo79) | (go_at_call 14; (with_reducible refine (spec_NoneInside.calls kj7 _ _ l0 _ _ t222 false _ ?side1 ?side2 ?side3 ?side4 A46.out).mono ?_); (case side1 => repeat (first | exact (Kd.C_below HR0.out HB.out) | (with_reducible refine Kd.C_alloc ?_ _) | (with_reducible refine Kd.C_drewN ?_ _) | (with_reducible refine Kd.C_drew ?_))); (case side2 => exact HC0.out); (case side3 => repeat (first | exact (Kd.R_reads' HO224.out).2.2 | (with_reducible refine Kd.C_alloc ?_ _) | (with_reducible refine Kd.C_drewN ?_ _) | (with_reducible refine Kd.C_drew ?_))); (case side4 => exact (Kd.R_reads' HO224.out).2.1); rintro e w80 ⟨rfl, hb⟩; have n0_ := Aside0.mk (Kd.R_below (by (with_reducible repeat (first | apply Kd.R_alloc | apply Kd.R_drewN | apply Kd.R_drew)); exact HO215.out) hb); have n1_ := Aside0.mk (Kd.R_below (by (with_reducible repeat (first | apply Kd.R_alloc | apply Kd.R_drewN | apply Kd.R_drew)); exact HO218.out) hb); have n2_ := Aside0.mk (Kd.R_below (by (with_reducible repeat (first | apply Kd.R_alloc | apply Kd.R_drewN | apply Kd.R_drew)); exact HO221.out) hb); have n3_ := Aside0.mk (Kd.R_below (by (with_reducible repeat (first | apply Kd.R_alloc | apply Kd.R_drewN | apply Kd.R_drew)); exact HO224.out) hb); have n4_ := Aside0.mk (Kd.R_below (by (with_reducible repeat (first | apply Kd.R_alloc | apply Kd.R_drewN | apply Kd.R_drew)); exact HO227.out) hb); have n5_ := Aside0.mk (below_step (by repeat (first | (with_reducible first | exact HB.out | apply below_alloc | apply pw_below_drewN | apply below_drew1) | exact HB.out)) hb); clear HO215; clear HO218; clear HO221; clear HO224; clear HO227; clear HB; have HO215 := n0_; have HO218 := n1_; have HO221 := n2_; have HO224 := n3_; have HO227 := n4_; have HB := n5_; clear n0_ n1_ n2_ n3_ n4_ n5_; (try clear hb); (try clear hb2); (try clear hk); (try clear hi)))
                      go_ret
                      exact ⟨by first | rfl | (simp [errW_none, errW_some] <;> rfl) | (simp [*, errW_none, errW_some] <;> rfl), by repeat (first | (with_reducible first | exact HB.out | apply below_alloc | apply pw_below_drewN | apply below_drew1) | exact HB.out)⟩
                  · replace c45 := Bool.eq_false_iff.mpr c45
                    subst c45
                    have H1 : (some true) = some r := by rw [if_neg (show ¬ (false = true) by decide)] at H; exact H
                    clear H
                    have H := H1
                    clear H1
                    obtain rfl := Option.some.inj H
                    go_wp2_with (first | ((with_reducible refine gate_dst (N := 63) rfl ?_); (try (refine gate_guard (by rfl) ?_; dsimp only)); refine Kd.R_lit k24 _ 24 ?hg (N := 63) ?hd (xs := ([(⟨1, 2⟩ : S24)] : List (S24))) (inner := [.int .i64 1, .int .i64 2]) (ok := fun _ => True) (okp := fun _ => True) ?hr ?hp (fun _ hk => hk) trivial (Below.refl _ _) (Nat.le_refl _) (by simp) ?_; (case hd => rfl); (case hg => rfl); (case hr => first | (go_simp; done) | (go_simp; rfl)); (case hp => exact (Reps.c2 (show Kd.M k24 _ _ _ (⟨1, 2⟩ : S24) [.int .i64 1, .int .i64 2] from (k24_mkM _ _ _ (⟨1, 2⟩ : S24) )) (Reps.none _ _))); intro v214 w81 ho82 hb hg_ hnew_; clear hg_ hnew_; (first | rw [← Ny213.out] at ho82 | (simp only [Int.reduceToNat] at ho82; rw [← Ny213.out] at ho82)); have n0_ := Aside0.mk (Kd.R_lower ho82 (below_size (by repeat (first | (with_reducible first | exact HB.out | apply below_alloc | apply pw_below_drewN | apply below_drew1) | exact HB.out)))); have n1_ := Aside0.mk (below_step (by repeat (first | (with_reducible first | exact HB.out | apply below_alloc | apply pw_below_drewN | apply below_drew1) | exact HB.out)) hb); clear HB; have HO215 := n0_; have HB := n1_; clear n0_ n1_; clear hb ho82; obtain ⟨Ao83, co83, eo83⟩ := Kd.R_slice HO215.out; subst eo83) | ((with_reducible refine gate_callee (f := 15) rfl ?_); refine goesL_ (some 64) rfl rfl Try.func15 (by kernel_rfl) rfl #[.slice Ao83 y213.length co83, .slice none 0 0] rfl (by (try simp only [List.map_toArray, List.map_cons, List.map_nil]); first | done | rfl | (simp only [List.length_drop, List.length_take]; rfl)) ?_; (refine (impl_MergeRanges.calls kj7 _ _ y213 _ _ ([] : List (S24)) t216 _ ?side1 ?side2 ?side3 ?side4 A37.out).mono ?_); (case side1 => repeat (first | exact (Kd.R_reads' HO215.out).2.2 | (with_reducible refine Kd.C_alloc ?_ _) | (with_reducible refine Kd.C_drewN ?_ _) | (with_reducible refine Kd.C_drew ?_))); (case side2 => exact (Kd.R_reads' HO215.out).2.1); (case side3 => exact Kd.C_nil _ _); (case side4 => exact Nat.le_refl _); rintro e w84 ⟨v217, rfl, ho0, hb⟩; refine ⟨_, rfl, ?_⟩; have n0_ := Aside0.mk (Kd.R_elder' (by (with_reducible repeat (first | apply Kd.R_alloc | apply Kd.R_drewN | apply Kd.R_drew)); exact HO215.out) (Kd.R_base ho0) hb); have n1_ := Aside0.mk (Kd.R_lower (Kd.R_new' ho0 (Kd.R_lt (by (with_reducible repeat (first | apply Kd.R_alloc | apply Kd.R_drewN | apply Kd.R_drew)); exact HO215.out))) (below_size (by repeat (first | (with_reducible first | exact HB.out | apply below_alloc | apply pw_below_drewN | apply below_drew1) | exact HB.out)))); have n2_ := Aside0.mk (below_step (by repeat (first | (with_reducible first | exact HB.out | apply below_alloc | apply pw_below_drewN | apply below_drew1) | exact HB.out)) hb); clear HO215; clear HB; have HO215 := n0_; have HO218 := n1_; have HB := n2_; clear n0_ n1_ n2_; (try clear hb); (try clear hb2); (try clear hk); (try clear hi); (try clear ho0); obtain ⟨Ao85, co85, eo85⟩ := Kd.R_slice HO218.out; subst eo85) | ((with_reducible refine gate_callee (f := 15) rfl ?_); refine goesL_ (some 69) rfl rfl Try.func15 (by kernel_rfl) rfl #[.slice A0 l0.length c0, .slice A1 l1.length c1] rfl (by (try simp only [List.map_toArray, List.map_cons, List.map_nil]); first | done | rfl | (simp only [List.length_drop, List.length_take]; rfl)) ?_; (with_reducible refine (impl_MergeRanges.calls kj7 _ _ l0 _ _ l1 t219 _ ?side1 ?side2 ?side3 ?side4 A39.out).mono ?_); (case side1 => repeat (first | exact (Kd.C_below HR0.out HB.out) | (with_reducible refine Kd.C_alloc ?_ _) | (with_reducible refine Kd.C_drewN ?_ _) | (with_reducible refine Kd.C_drew ?_))); (case side2 => exact HC0.out); (case side3 => repeat (first | exact (Kd.C_below HR1.out HB.out) | (with_reducible refine Kd.C_alloc ?_ _) | (with_reducible refine Kd.C_drewN ?_ _) | (with_reducible refine Kd.C_drew ?_))); (case side4 => exact HC1.out); rintro e w86 ⟨v220, rfl, ho0, hb⟩; refine ⟨_, rfl, ?_⟩; have n0_ := Aside0.mk (Kd.R_elder' (by (with_reducible repeat (first | apply Kd.R_alloc | apply Kd.R_drewN | apply Kd.R_drew)); exact HO215.out) (Kd.R_base ho0) hb); have n1_ := Aside0.mk (Kd.R_elder' (by (with_reducible repeat (first | apply Kd.R_alloc | apply Kd.R_drewN | apply Kd.R_drew)); exact HO218.out) (Kd.R_base ho0) hb); have n2_ := Aside0.mk (Kd.R_lower (Kd.R_new' (Kd.R_new' ho0 (Kd.R_lt (by (with_reducible repeat (first | apply Kd.R_alloc | apply Kd.R_drewN | apply Kd.R_drew)); exact HO215.out))) (Kd.R_lt (by (with_reducible repeat (first | apply Kd.R_alloc | apply Kd.R_drewN | apply Kd.R_drew)); exact HO218.out))) (below_size (by repeat (first | (with_reducible first | exact HB.out | apply below_alloc | apply pw_below_drewN | apply below_drew1) | exact HB.out)))); have n3_ := Aside0.mk (below_step (by repeat (first | (with_reducible first | exact HB.out | apply below_alloc | apply pw_below_drewN | apply below_drew1) | exact HB.out)) hb); clear HO215; clear HO218; clear HB; have HO215 := n0_; have HO218 := n1_; have HO221 := n2_; have HB := n3_; clear n0_ n1_ n2_ n3_; (try clear hb); (try clear hb2); (try clear hk); (try clear hi); (try clear ho0)) | ((with_reducible refine gate_callee (f := 15) rfl ?_); refine goesL_ (some 72) rfl rfl Try.func15 (by kernel_rfl) rfl #[.slice A1 l1.length c1, .slice A2 l2.length c2] rfl (by (try simp only [List.map_toArray, List.map_cons, List.map_nil]); first | done | rfl | (simp only [List.length_drop, List.length_take]; rfl)) ?_; (with_reducible refine (impl_MergeRanges.calls kj7 _ _ l1 _ _ l2 t222 _ ?side1 ?side2 ?side3 ?side4 A40.out).mono ?_); (case side1 => repeat (first | exact (Kd.C_below HR1.out HB.out) | (with_reducible refine Kd.C_alloc ?_ _) | (with_reducible refine Kd.C_drewN ?_ _) | (with_reducible refine Kd.C_drew ?_))); (case side2 => exact HC1.out); (case side3 => repeat (first | exact (Kd.C_below HR2.out HB.out) | (with_reducible refine Kd.C_alloc ?_ _) | (with_reducible refine Kd.C_drewN ?_ _) | (with_reducible refine Kd.C_drew ?_))); (case side4 => exact HC2.out); rintro e w87 ⟨v223, rfl, ho0, hb⟩; refine ⟨_, rfl, ?_⟩; have n0_ := Aside0.mk (Kd.R_elder' (by (with_reducible repeat (first | apply Kd.R_alloc | apply Kd.R_drewN | apply Kd.R_drew)); exact HO215.out) (Kd.R_base ho0) hb); have n1_ := Aside0.mk (Kd.R_elder' (by (with_reducible repeat (first | apply Kd.R_alloc | apply Kd.R_drewN | apply Kd.R_drew)); exact HO218.out) (Kd.R_base ho0) hb); have n2_ := Aside0.mk (Kd.R_elder' (by (with_reducible repeat (first | apply Kd.R_alloc | apply Kd.R_drewN | apply Kd.R_drew)); exact HO221.out) (Kd.R_base ho0) hb); have n3_ := Aside0.mk (Kd.R_lower (Kd.R_new' (Kd.R_new' (Kd.R_new' ho0 (Kd.R_lt (by (with_reducible repeat (first | apply Kd.R_alloc | apply Kd.R_drewN | apply Kd.R_drew)); exact HO215.out))) (Kd.R_lt (by (with_reducible repeat (first | apply Kd.R_alloc | apply Kd.R_drewN | apply Kd.R_drew)); exact HO218.out))) (Kd.R_lt (by (with_reducible repeat (first | apply Kd.R_alloc | apply Kd.R_drewN | apply Kd.R_drew)); exact HO221.out))) (below_size (by repeat (first | (with_reducible first | exact HB.out | apply below_alloc | apply pw_below_drewN | apply below_drew1) | exact HB.out)))); have n4_ := Aside0.mk (below_step (by repeat (first | (with_reducible first | exact HB.out | apply below_alloc | apply pw_below_drewN | apply below_drew1) | exact HB.out)) hb); clear HO215; clear HO218; clear HO221; clear HB; have HO215 := n0_; have HO218 := n1_; have HO221 := n2_; have HO224 := n3_; have HB := n4_; clear n0_ n1_ n2_ n3_ n4_; (try clear hb); (try clear hb2); (try clear hk); (try clear hi); (try clear ho0)) | ((with_reducible refine gate_callee (f := 15) rfl ?_); refine goesL_ (some 76) rfl rfl Try.func15 (by kernel_rfl) rfl #[.slice A1 l1.length c1, .slice A0 l0.length c0] rfl (by (try simp only [List.map_toArray, List.map_cons, List.map_nil]); first | done | rfl | (simp only [List.length_drop, List.length_take]; rfl)) ?_; (with_reducible refine (impl_MergeRanges.calls kj7 _ _ l1 _ _ l0 t225 _ ?side1 ?side2 ?side3 ?side4 A41.out).mono ?_); (case side1 => repeat (first | exact (Kd.C_below HR1.out HB.out) | (with_reducible refine Kd.C_alloc ?_ _) | (with_reducible refine Kd.C_drewN ?_ _) | (with_reducible refine Kd.C_drew ?_))); (case side2 => exact HC1.out); (case side3 => repeat (first | exact (Kd.C_below HR0.out HB.out) | (with_reducible refine Kd.C_alloc ?_ _) | (with_reducible refine Kd.C_drewN ?_ _) | (with_reducible refine Kd.C_drew ?_))); (case side4 => exact HC0.out); rintro e w88 ⟨v226, rfl, ho0, hb⟩; refine ⟨_, rfl, ?_⟩; have n0_ := Aside0.mk (Kd.R_elder' (by (with_reducible repeat (first | apply Kd.R_alloc | apply Kd.R_drewN | apply Kd.R_drew)); exact HO215.out) (Kd.R_base ho0) hb); have n1_ := Aside0.mk (Kd.R_elder' (by (with_reducible repeat (first | apply Kd.R_alloc | apply Kd.R_drewN | apply Kd.R_drew)); exact HO218.out) (Kd.R_base ho0) hb); have n2_ := Aside0.mk (Kd.R_elder' (by (with_reducible repeat (first | apply Kd.R_alloc | apply Kd.R_drewN | apply Kd.R_drew)); exact HO221.out) (Kd.R_base ho0) hb); have n3_ := Aside0.mk (Kd.R_elder' (by (with_reducible repeat (first | apply Kd.R_alloc | apply Kd.R_drewN | apply Kd.R_drew)); exact HO224.out) (Kd.R_base ho0) hb); have n4_ := Aside0.mk (Kd.R_lower (Kd.R_new' (Kd.R_new' (Kd.R_new' (Kd.R_new' ho0 (Kd.R_lt (by (with_reducible repeat (first | apply Kd.R_alloc | apply Kd.R_drewN | apply Kd.R_drew)); exact HO215.out))) (Kd.R_lt (by (with_reducible repeat (first | apply Kd.R_alloc | apply Kd.R_drewN | apply Kd.R_drew)); exact HO218.out))) (Kd.R_lt (by (with_reducible repeat (first | apply Kd.R_alloc | apply Kd.R_drewN | apply Kd.R_drew)); exact HO221.out))) (Kd.R_lt (by (with_reducible repeat (first | apply Kd.R_alloc | apply Kd.R_drewN | apply Kd.R_drew)); exact HO224.out))) (below_size (by repeat (first | (with_reducible first | exact HB.out | apply below_alloc | apply pw_below_drewN | apply below_drew1) | exact HB.out)))); have n5_ := Aside0.mk (below_step (by repeat (first | (with_reducible first | exact HB.out | apply below_alloc | apply pw_below_drewN | apply below_drew1) | exact HB.out)) hb); clear HO215; clear HO218; clear HO221; clear HO224; clear HB; have HO215 := n0_; have HO218 := n1_; have HO221 := n2_; have HO224 := n3_; have HO227 := n4_; have HB := n5_; clear n0_ n1_ n2_ n3_ n4_ n5_; (try clear hb); (try clear hb2); (try clear hk); (try clear hi); (try clear ho0); obtain ⟨Ao89, co89, eo89⟩ := Kd.R_slice HO221.out; subst eo89; obtain ⟨Ao90, co90, eo90⟩ := Kd.R_slice HO227.out; subst eo90) | ((with_reducible refine gate_callee (f := 12) rfl ?_); refine goesL_ (some 77) rfl rfl Try.func12 (by kernel_rfl) rfl #[.slice Ao89 t219.length co89, .slice Ao90 t225.length co90] rfl (by (try simp only [List.map_toArray, List.map_cons, List.map_nil]); first | done | rfl | (simp only [List.length_drop, List.length_take]; rfl)) ?_; (with_reducible refine (laws_sameRanges.calls kj7 _ _ t219 _ _ t225 true _ ?side1 ?side2 ?side3 ?side4 A42.out).mono ?_); (case side1 => repeat (first | exact (Kd.R_reads' HO221.out).2.2 | (with_reducible refine Kd.C_alloc ?_ _) | (with_reducible refine Kd.C_drewN ?_ _) | (with_reducible refine Kd.C_drew ?_))); (case side2 => exact (Kd.R_reads' HO221.out).2.1); (case side3 => repeat (first | exact (Kd.R_reads' HO227.out).2.2 | (with_reducible refine Kd.C_alloc ?_ _) | (with_reducible refine Kd.C_drewN ?_ _) | (with_reducible refine Kd.C_drew ?_))); (case side4 => exact (Kd.R_reads' HO227.out).2.1); rintro e w' ⟨rfl, ⟨nd, rfl⟩⟩; refine ⟨_, rfl, ?_⟩) | ((with_reducible refine gate_callee (f := 14) rfl ?_); refine goesL_ (some 81) rfl rfl Try.func14 (by kernel_rfl) rfl #[.slice Ao89 t219.length co89, .slice A2 l2.length c2] rfl (by (try simp only [List.map_toArray, List.map_cons, List.map_nil]); first | done | rfl | (simp only [List.length_drop, List.length_take]; rfl)) ?_; (with_reducible refine (spec_NoneInside.calls kj7 _ _ t219 _ _ l2 false _ ?side1 ?side2 ?side3 ?side4 A44.out).mono ?_); (case side1 => repeat (first | exact (Kd.R_reads' HO221.out).2.2 | (with_reducible refine Kd.C_alloc ?_ _) | (with_reducible refine Kd.C_drewN ?_ _) | (with_reducible refine Kd.C_drew ?_))); (case side2 => exact (Kd.R_reads' HO221.out).2.1); (case side3 => repeat (first | exact (Kd.C_below HR2.out (by repeat (first | (with_reducible first | exact HB.out | apply below_alloc | apply pw_below_drewN | apply below_drew1) | exact HB.out))) | (with_reducible refine Kd.C_alloc ?_ _) | (with_reducible refine Kd.C_drewN ?_ _) | (with_reducible refine Kd.C_drew ?_))); (case side4 => exact HC2.out); rintro e w91 ⟨rfl, hb⟩; refine ⟨_, rfl, ?_⟩; have n0_ := Aside0.mk (Kd.R_below (by (with_reducible repeat (first | apply Kd.R_alloc | apply Kd.R_drewN | apply Kd.R_drew)); exact HO215.out) hb); have n1_ := Aside0.mk (Kd.R_below (by (with_reducible repeat (first | apply Kd.R_alloc | apply Kd.R_drewN | apply Kd.R_drew)); exact HO218.out) hb); have n2_ := Aside0.mk (Kd.R_below (by (with_reducible repeat (first | apply Kd.R_alloc | apply Kd.R_drewN | apply Kd.R_drew)); exact HO221.out) hb); have n3_ := Aside0.mk (Kd.R_below (by (with_reducible repeat (first | apply Kd.R_alloc | apply Kd.R_drewN | apply Kd.R_drew)); exact HO224.out) hb); have n4_ := Aside0.mk (Kd.R_below (by (with_reducible repeat (first | apply Kd.R_alloc | apply Kd.R_drewN | apply Kd.R_drew)); exact HO227.out) hb); have n5_ := Aside0.mk (below_step (by repeat (first | (with_reducible first | exact HB.out | apply below_alloc | apply pw_below_drewN | apply below_drew1) | exact HB.out)) hb); clear HO215; clear HO218; clear HO221; clear HO224; clear HO227; clear HB; have HO215 := n0_; have HO218 := n1_; have HO221 := n2_; have HO224 := n3_; have HO227 := n4_; have HB := n5_; clear n0_ n1_ n2_ n3_ n4_ n5_; (try clear hb); (try clear hb2); (try clear hk); (try clear hi)))
                    go_ret
                    exact ⟨by first | rfl | (simp [errW_none, errW_some] <;> rfl) | (simp [*, errW_none, errW_some] <;> rfl), by repeat (first | (with_reducible first | exact HB.out | apply below_alloc | apply pw_below_drewN | apply below_drew1) | exact HB.out)⟩
                · replace c43 := Bool.eq_false_iff.mpr c43
                  subst c43
                  have H1 : (some false) = some r := by rw [if_neg (show ¬ (false = true) by decide)] at H; exact H
                  clear H
                  have H := H1
                  clear H1
                  obtain rfl := Option.some.inj H
                  go_wp2_with (first | ((with_reducible refine gate_dst (N := 63) rfl ?_); (try (refine gate_guard (by rfl) ?_; dsimp only)); refine Kd.R_lit k24 _ 24 ?hg (N := 63) ?hd (xs := ([(⟨1, 2⟩ : S24)] : List (S24))) (inner := [.int .i64 1, .int .i64 2]) (ok := fun _ => True) (okp := fun _ => True) ?hr ?hp (fun _ hk => hk) trivial (Below.refl _ _) (Nat.le_refl _) (by simp) ?_; (case hd => rfl); (case hg => rfl); (case hr => first | (go_simp; done) | (go_simp; rfl)); (case hp => exact (Reps.c2 (show Kd.M k24 _ _ _ (⟨1, 2⟩ : S24) [.int .i64 1, .int .i64 2] from (k24_mkM _ _ _ (⟨1, 2⟩ : S24) )) (Reps.none _ _))); intro v214 w92 ho93 hb hg_ hnew_; clear hg_ hnew_; (first | rw [← Ny213.out] at ho93 | (simp only [Int.reduceToNat] at ho93; rw [← Ny213.out] at ho93)); have n0_ := Aside0.mk (Kd.R_lower ho93 (below_size (by repeat (first | (with_reducible first | exact HB.out | apply below_alloc | apply pw_below_drewN | apply below_drew1) | exact HB.out)))); have n1_ := Aside0.mk (below_step (by repeat (first | (with_reducible first | exact HB.out | apply below_alloc | apply pw_below_drewN | apply below_drew1) | exact HB.out)) hb); clear HB; have HO215 := n0_; have HB := n1_; clear n0_ n1_; clear hb ho93; obtain ⟨Ao94, co94, eo94⟩ := Kd.R_slice HO215.out; subst eo94) | ((with_reducible refine gate_callee (f := 15) rfl ?_); refine goesL_ (some 64) rfl rfl Try.func15 (by kernel_rfl) rfl #[.slice Ao94 y213.length co94, .slice none 0 0] rfl (by (try simp only [List.map_toArray, List.map_cons, List.map_nil]); first | done | rfl | (simp only [List.length_drop, List.length_take]; rfl)) ?_; (refine (impl_MergeRanges.calls kj7 _ _ y213 _ _ ([] : List (S24)) t216 _ ?side1 ?side2 ?side3 ?side4 A37.out).mono ?_); (case side1 => repeat (first | exact (Kd.R_reads' HO215.out).2.2 | (with_reducible refine Kd.C_alloc ?_ _) | (with_reducible refine Kd.C_drewN ?_ _) | (with_reducible refine Kd.C_drew ?_))); (case side2 => exact (Kd.R_reads' HO215.out).2.1); (case side3 => exact Kd.C_nil _ _); (case side4 => exact Nat.le_refl _); rintro e w95 ⟨v217, rfl, ho0, hb⟩; refine ⟨_, rfl, ?_⟩; have n0_ := Aside0.mk (Kd.R_elder' (by (with_reducible repeat (first | apply Kd.R_alloc | apply Kd.R_drewN | apply Kd.R_drew)); exact HO215.out) (Kd.R_base ho0) hb); have n1_ := Aside0.mk (Kd.R_lower (Kd.R_new' ho0 (Kd.R_lt (by (with_reducible repeat (first | apply Kd.R_alloc | apply Kd.R_drewN | apply Kd.R_drew)); exact HO215.out))) (below_size (by repeat (first | (with_reducible first | exact HB.out | apply below_alloc | apply pw_below_drewN | apply below_drew1) | exact HB.out)))); have n2_ := Aside0.mk (below_step (by repeat (first | (with_reducible first | exact HB.out | apply below_alloc | apply pw_below_drewN | apply below_drew1) | exact HB.out)) hb); clear HO215; clear HB; have HO215 := n0_; have HO218 := n1_; have HB := n2_; clear n0_ n1_ n2_; (try clear hb); (try clear hb2); (try clear hk); (try clear hi); (try clear ho0); obtain ⟨Ao96, co96, eo96⟩ := Kd.R_slice HO218.out; subst eo96) | ((with_reducible refine gate_callee (f := 15) rfl ?_); refine goesL_ (some 69) rfl rfl Try.func15 (by kernel_rfl) rfl #[.slice A0 l0.length c0, .slice A1 l1.length c1] rfl (by (try simp only [List.map_toArray, List.map_cons, List.map_nil]); first | done | rfl | (simp only [List.length_drop, List.length_take]; rfl)) ?_; (with_reducible refine (impl_MergeRanges.calls kj7 _ _ l0 _ _ l1 t219 _ ?side1 ?side2 ?side3 ?side4 A39.out).mono ?_); (case side1 => repeat (first | exact (Kd.C_below HR0.out HB.out) | (with_reducible refine Kd.C_alloc ?_ _) | (with_reducible refine Kd.C_drewN ?_ _) | (with_reducible refine Kd.C_drew ?_))); (case side2 => exact HC0.out); (case side3 => repeat (first | exact (Kd.C_below HR1.out HB.out) | (with_reducible refine Kd.C_alloc ?_ _) | (with_reducible refine Kd.C_drewN ?_ _) | (with_reducible refine Kd.C_drew ?_))); (case side4 => exact HC1.out); rintro e w97 ⟨v220, rfl, ho0, hb⟩; refine ⟨_, rfl, ?_⟩; have n0_ := Aside0.mk (Kd.R_elder' (by (with_reducible repeat (first | apply Kd.R_alloc | apply Kd.R_drewN | apply Kd.R_drew)); exact HO215.out) (Kd.R_base ho0) hb); have n1_ := Aside0.mk (Kd.R_elder' (by (with_reducible repeat (first | apply Kd.R_alloc | apply Kd.R_drewN | apply Kd.R_drew)); exact HO218.out) (Kd.R_base ho0) hb); have n2_ := Aside0.mk (Kd.R_lower (Kd.R_new' (Kd.R_new' ho0 (Kd.R_lt (by (with_reducible repeat (first | apply Kd.R_alloc | apply Kd.R_drewN | apply Kd.R_drew)); exact HO215.out))) (Kd.R_lt (by (with_reducible repeat (first | apply Kd.R_alloc | apply Kd.R_drewN | apply Kd.R_drew)); exact HO218.out))) (below_size (by repeat (first | (with_reducible first | exact HB.out | apply below_alloc | apply pw_below_drewN | apply below_drew1) | exact HB.out)))); have n3_ := Aside0.mk (below_step (by repeat (first | (with_reducible first | exact HB.out | apply below_alloc | apply pw_below_drewN | apply below_drew1) | exact HB.out)) hb); clear HO215; clear HO218; clear HB; have HO215 := n0_; have HO218 := n1_; have HO221 := n2_; have HB := n3_; clear n0_ n1_ n2_ n3_; (try clear hb); (try clear hb2); (try clear hk); (try clear hi); (try clear ho0)) | ((with_reducible refine gate_callee (f := 15) rfl ?_); refine goesL_ (some 72) rfl rfl Try.func15 (by kernel_rfl) rfl #[.slice A1 l1.length c1, .slice A2 l2.length c2] rfl (by (try simp only [List.map_toArray, List.map_cons, List.map_nil]); first | done | rfl | (simp only [List.length_drop, List.length_take]; rfl)) ?_; (with_reducible refine (impl_MergeRanges.calls kj7 _ _ l1 _ _ l2 t222 _ ?side1 ?side2 ?side3 ?side4 A40.out).mono ?_); (case side1 => repeat (first | exact (Kd.C_below HR1.out HB.out) | (with_reducible refine Kd.C_alloc ?_ _) | (with_reducible refine Kd.C_drewN ?_ _) | (with_reducible refine Kd.C_drew ?_))); (case side2 => exact HC1.out); (case side3 => repeat (first | exact (Kd.C_below HR2.out HB.out) | (with_reducible refine Kd.C_alloc ?_ _) | (with_reducible refine Kd.C_drewN ?_ _) | (with_reducible refine Kd.C_drew ?_))); (case side4 => exact HC2.out); rintro e w98 ⟨v223, rfl, ho0, hb⟩; refine ⟨_, rfl, ?_⟩; have n0_ := Aside0.mk (Kd.R_elder' (by (with_reducible repeat (first | apply Kd.R_alloc | apply Kd.R_drewN | apply Kd.R_drew)); exact HO215.out) (Kd.R_base ho0) hb); have n1_ := Aside0.mk (Kd.R_elder' (by (with_reducible repeat (first | apply Kd.R_alloc | apply Kd.R_drewN | apply Kd.R_drew)); exact HO218.out) (Kd.R_base ho0) hb); have n2_ := Aside0.mk (Kd.R_elder' (by (with_reducible repeat (first | apply Kd.R_alloc | apply Kd.R_drewN | apply Kd.R_drew)); exact HO221.out) (Kd.R_base ho0) hb); have n3_ := Aside0.mk (Kd.R_lower (Kd.R_new' (Kd.R_new' (Kd.R_new' ho0 (Kd.R_lt (by (with_reducible repeat (first | apply Kd.R_alloc | apply Kd.R_drewN | apply Kd.R_drew)); exact HO215.out))) (Kd.R_lt (by (with_reducible repeat (first | apply Kd.R_alloc | apply Kd.R_drewN | apply Kd.R_drew)); exact HO218.out))) (Kd.R_lt (by (with_reducible repeat (first | apply Kd.R_alloc | apply Kd.R_drewN | apply Kd.R_drew)); exact HO221.out))) (below_size (by repeat (first | (with_reducible first | exact HB.out | apply below_alloc | apply pw_below_drewN | apply below_drew1) | exact HB.out)))); have n4_ := Aside0.mk (below_step (by repeat (first | (with_reducible first | exact HB.out | apply below_alloc | apply pw_below_drewN | apply below_drew1) | exact HB.out)) hb); clear HO215; clear HO218; clear HO221; clear HB; have HO215 := n0_; have HO218 := n1_; have HO221 := n2_; have HO224 := n3_; have HB := n4_; clear n0_ n1_ n2_ n3_ n4_; (try clear hb); (try clear hb2); (try clear hk); (try clear hi); (try clear ho0)) | ((with_reducible refine gate_callee (f := 15) rfl ?_); refine goesL_ (some 76) rfl rfl Try.func15 (by kernel_rfl) rfl #[.slice A1 l1.length c1, .slice A0 l0.length c0] rfl (by (try simp only [List.map_toArray, List.map_cons, List.map_nil]); first | done | rfl | (simp only [List.length_drop, List.length_take]; rfl)) ?_; (with_reducible refine (impl_MergeRanges.calls kj7 _ _ l1 _ _ l0 t225 _ ?side1 ?side2 ?side3 ?side4 A41.out).mono ?_); (case side1 => repeat (first | exact (Kd.C_below HR1.out HB.out) | (with_reducible refine Kd.C_alloc ?_ _) | (with_reducible refine Kd.C_drewN ?_ _) | (with_reducible refine Kd.C_drew ?_))); (case side2 => exact HC1.out); (case side3 => repeat (first | exact (Kd.C_below HR0.out HB.out) | (with_reducible refine Kd.C_alloc ?_ _) | (with_reducible refine Kd.C_drewN ?_ _) | (with_reducible refine Kd.C_drew ?_))); (case side4 => exact HC0.out); rintro e w99 ⟨v226, rfl, ho0, hb⟩; refine ⟨_, rfl, ?_⟩; have n0_ := Aside0.mk (Kd.R_elder' (by (with_reducible repeat (first | apply Kd.R_alloc | apply Kd.R_drewN | apply Kd.R_drew)); exact HO215.out) (Kd.R_base ho0) hb); have n1_ := Aside0.mk (Kd.R_elder' (by (with_reducible repeat (first | apply Kd.R_alloc | apply Kd.R_drewN | apply Kd.R_drew)); exact HO218.out) (Kd.R_base ho0) hb); have n2_ := Aside0.mk (Kd.R_elder' (by (with_reducible repeat (first | apply Kd.R_alloc | apply Kd.R_drewN | apply Kd.R_drew)); exact HO221.out) (Kd.R_base ho0) hb); have n3_ := Aside0.mk (Kd.R_elder' (by (with_reducible repeat (first | apply Kd.R_alloc | apply Kd.R_drewN | apply Kd.R_drew)); exact HO224.out) (Kd.R_base ho0) hb); have n4_ := Aside0.mk (Kd.R_lower (Kd.R_new' (Kd.R_new' (Kd.R_new' (Kd.R_new' ho0 (Kd.R_lt (by (with_reducible repeat (first | apply Kd.R_alloc | apply Kd.R_drewN | apply Kd.R_drew)); exact HO215.out))) (Kd.R_lt (by (with_reducible repeat (first | apply Kd.R_alloc | apply Kd.R_drewN | apply Kd.R_drew)); exact HO218.out))) (Kd.R_lt (by (with_reducible repeat (first | apply Kd.R_alloc | apply Kd.R_drewN | apply Kd.R_drew)); exact HO221.out))) (Kd.R_lt (by (with_reducible repeat (first | apply Kd.R_alloc | apply Kd.R_drewN | apply Kd.R_drew)); exact HO224.out))) (below_size (by repeat (first | (with_reducible first | exact HB.out | apply below_alloc | apply pw_below_drewN | apply below_drew1) | exact HB.out)))); have n5_ := Aside0.mk (below_step (by repeat (first | (with_reducible first | exact HB.out | apply below_alloc | apply pw_below_drewN | apply below_drew1) | exact HB.out)) hb); clear HO215; clear HO218; clear HO221; clear HO224; clear HB; have HO215 := n0_; have HO218 := n1_; have HO221 := n2_; have HO224 := n3_; have HO227 := n4_; have HB := n5_; clear n0_ n1_ n2_ n3_ n4_ n5_; (try clear hb); (try clear hb2); (try clear hk); (try clear hi); (try clear ho0); obtain ⟨Ao100, co100, eo100⟩ := Kd.R_slice HO221.out; subst eo100; obtain ⟨Ao101, co101, eo101⟩ := Kd.R_slice HO227.out; subst eo101) | ((with_reducible refine gate_callee (f := 12) rfl ?_); refine goesL_ (some 77) rfl rfl Try.func12 (by kernel_rfl) rfl #[.slice Ao100 t219.length co100, .slice Ao101 t225.length co101] rfl (by (try simp only [List.map_toArray, List.map_cons, List.map_nil]); first | done | rfl | (simp only [List.length_drop, List.length_take]; rfl)) ?_; (with_reducible refine (laws_sameRanges.calls kj7 _ _ t219 _ _ t225 false _ ?side1 ?side2 ?side3 ?side4 A42.out).mono ?_); (case side1 => repeat (first | exact (Kd.R_reads' HO221.out).2.2 | (with_reducible refine Kd.C_alloc ?_ _) | (with_reducible refine Kd.C_drewN ?_ _) | (with_reducible refine Kd.C_drew ?_))); (case side2 => exact (Kd.R_reads' HO221.out).2.1); (case side3 => repeat (first | exact (Kd.R_reads' HO227.out).2.2 | (with_reducible refine Kd.C_alloc ?_ _) | (with_reducible refine Kd.C_drewN ?_ _) | (with_reducible refine Kd.C_drew ?_))); (case side4 => exact (Kd.R_reads' HO227.out).2.1); rintro e w' ⟨rfl, ⟨nd, rfl⟩⟩; refine ⟨_, rfl, ?_⟩))
                  go_ret
                  exact ⟨by first | rfl | (simp [errW_none, errW_some] <;> rfl) | (simp [*, errW_none, errW_some] <;> rfl), by repeat (first | (with_reducible first | exact HB.out | apply below_alloc | apply pw_below_drewN | apply below_drew1) | exact HB.out)⟩
              · rw [if_neg c38] at H
                have c38b0 : ((t216.length : Int) == 1) = false := beq_eq_false_iff_ne.mpr c38
                have c38b1 : ((t216.length : Int) != 1) = true := bne_iff_ne.mpr c38
                obtain rfl := Option.some.inj H
                go_wp2_with (first | ((with_reducible refine gate_dst (N := 63) rfl ?_); (try (refine gate_guard (by rfl) ?_; dsimp only)); refine Kd.R_lit k24 _ 24 ?hg (N := 63) ?hd (xs := ([(⟨1, 2⟩ : S24)] : List (S24))) (inner := [.int .i64 1, .int .i64 2]) (ok := fun _ => True) (okp := fun _ => True) ?hr ?hp (fun _ hk => hk) trivial (Below.refl _ _) (Nat.le_refl _) (by simp) ?_; (case hd => rfl); (case hg => rfl); (case hr => first | (go_simp; done) | (go_simp; rfl)); (case hp => exact (Reps.c2 (show Kd.M k24 _ _ _ (⟨1, 2⟩ : S24) [.int .i64 1, .int .i64 2] from (k24_mkM _ _ _ (⟨1, 2⟩ : S24) )) (Reps.none _ _))); intro v214 w102 ho103 hb hg_ hnew_; clear hg_ hnew_; (first | rw [← Ny213.out] at ho103 | (simp only [Int.reduceToNat] at ho103; rw [← Ny213.out] at ho103)); have n0_ := Aside0.mk (Kd.R_lower ho103 (below_size (by repeat (first | (with_reducible first | exact HB.out | apply below_alloc | apply pw_below_drewN | apply below_drew1) | exact HB.out)))); have n1_ := Aside0.mk (below_step (by repeat (first | (with_reducible first | exact HB.out | apply below_alloc | apply pw_below_drewN | apply below_drew1) | exact HB.out)) hb); clear HB; have HO215 := n0_; have HB := n1_; clear n0_ n1_; clear hb ho103; obtain ⟨Ao104, co104, eo104⟩ := Kd.R_slice HO215.out; subst eo104) | ((with_reducible refine gate_callee (f := 15) rfl ?_); refine goesL_ (some 64) rfl rfl Try.func15 (by kernel_rfl) rfl #[.slice Ao104 y213.length co104, .slice none 0 0] rfl (by (try simp only [List.map_toArray, List.map_cons, List.map_nil]); first | done | rfl | (simp only [List.length_drop, List.length_take]; rfl)) ?_; (refine (impl_MergeRanges.calls kj7 _ _ y213 _ _ ([] : List (S24)) t216 _ ?side1 ?side2 ?side3 ?side4 A37.out).mono ?_); (case side1 => repeat (first | exact (Kd.R_reads' HO215.out).2.2 | (with_reducible refine Kd.C_alloc ?_ _) | (with_reducible refine Kd.C_drewN ?_ _) | (with_reducible refine Kd.C_drew ?_))); (case side2 => exact (Kd.R_reads' HO215.out).2.1); (case side3 => exact Kd.C_nil _ _); (case side4 => exact Nat.le_refl _); rintro e w105 ⟨v217, rfl, ho0, hb⟩; refine ⟨_, rfl, ?_⟩; have n0_ := Aside0.mk (Kd.R_elder' (by (with_reducible repeat (first | apply Kd.R_alloc | apply Kd.R_drewN | apply Kd.R_drew)); exact HO215.out) (Kd.R_base ho0) hb); have n1_ := Aside0.mk (Kd.R_lower (Kd.R_new' ho0 (Kd.R_lt (by (with_reducible repeat (first | apply Kd.R_alloc | apply Kd.R_drewN | apply Kd.R_drew)); exact HO215.out))) (below_size (by repeat (first | (with_reducible first | exact HB.out | apply below_alloc | apply pw_below_drewN | apply below_drew1) | exact HB.out)))); have n2_ := Aside0.mk (below_step (by repeat (first | (with_reducible first | exact HB.out | apply below_alloc | apply pw_below_drewN | apply below_drew1) | exact HB.out)) hb); clear HO215; clear HB; have HO215 := n0_; have HO218 := n1_; have HB := n2_; clear n0_ n1_ n2_; (try clear hb); (try clear hb2); (try clear hk); (try clear hi); (try clear ho0); obtain ⟨Ao106, co106, eo106⟩ := Kd.R_slice HO218.out; subst eo106))
                go_ret
                exact ⟨by first | rfl | (simp [errW_none, errW_some] <;> rfl) | (simp [*, errW_none, errW_some] <;> rfl), by repeat (first | (with_reducible first | exact HB.out | apply below_alloc | apply pw_below_drewN | apply below_drew1) | exact HB.out)⟩

/-- THE ONE PURE STATEMENT of laws_FnMergeOrder. -/
def laws_FnMergeOrder.Pure : Prop := ∀ (l0 : List (S24)) (l1 : List (S24)) (l2 : List (S24)), (l0.length ≤ maxLen ∧ ∀ x_ ∈ l0, wf24 x_) → (l1.length ≤ maxLen ∧ ∀ x_ ∈ l1, wf24 x_) → (l2.length ≤ maxLen ∧ ∀ x_ ∈ l2, wf24 x_) → ∃ k, laws_FnMergeOrder.f k l0 l1 l2 = some true

/-! ### spec_In: function 16 -/
def spec_In.l0 : Nat → Int → List (S24) → Int → Int → Option (Bool)
  | 0, _, _, _, _ => none
  | k + 1, x1, x7, x8, x9 => if x9 < x8 then (if 0 ≤ x9 then (if x9 < (x7.length : Int) then (if ((rd_T24 x7 x9).f0) ≤ x1 then (if x1 < ((rd_T24 x7 x9).f1) then (some true) else (spec_In.l0 k x1 x7 x8 (wrap64 (x9 + 1)))) else (spec_In.l0 k x1 x7 x8 (wrap64 (x9 + 1)))) else (none)) else (none)) else (some false)
def spec_In.f (k : Nat) (l0 : List (S24)) (a1 : Int) : Option (Bool) := spec_In.l0 k a1 l0 (l0.length : Int) 0
theorem spec_In.mono_l : ∀ k, (∀ y0 y1 y2 y3, LeO (spec_In.l0 k y0 y1 y2 y3) (spec_In.l0 (k + 1) y0 y1 y2 y3))
  | 0 => fun _ _ _ _ r h => by simp [spec_In.l0] at h
  | k + 1 => by
    have ih0 := spec_In.mono_l k
    · intro y0 y1 y2 y3
      unfold spec_In.l0
      repeat' first
      | (with_reducible exact ih0 _ _ _ _)
      | (with_reducible exact LeO.refl _)
      | (with_reducible exact LeO.none _)
      | (with_reducible refine LeO.ite ?_ ?_)
      | (with_reducible refine LeO.bind ?_ (fun _ => ?_))
      | exact ih0 _ _ _ _
      | exact LeO.none _
      | refine LeO.ite ?_ ?_
      | refine LeO.bind ?_ (fun _ => ?_)
theorem spec_In.mono : ∀ a0 a1 k, LeO (spec_In.f k a0 a1) (spec_In.f (k + 1) a0 a1) := by
  intro a0 a1 k
  have ih0 := spec_In.mono_l k
  unfold spec_In.f
  repeat' first
      | (with_reducible exact ih0 _ _ _ _)
      | (with_reducible exact LeO.refl _)
      | (with_reducible exact LeO.none _)
      | (with_reducible refine LeO.ite ?_ ?_)
      | (with_reducible refine LeO.bind ?_ (fun _ => ?_))
      | exact ih0 _ _ _ _
      | exact LeO.none _
      | refine LeO.ite ?_ ?_
      | refine LeO.bind ?_ (fun _ => ?_)
set_option maxHeartbeats 8000000 in
set_option maxRecDepth 100000 in
theorem spec_In.calls (k : Nat) (A0 : Option Addr) (c0 : Nat) (l0 : List (S24)) (a1 : Int) (r : Bool) (w : World) (hr0 : Kd.C k24 w A0 l0.length l0) (hc0 : l0.length ≤ c0) (h : spec_In.f k l0 a1 = some r) :
    Calls Try.prog 16 #[.slice A0 l0.length c0, .int .i64 a1] w fun e w' => e = .returned (.bool r) ∧ Below w.heap.size w w' := by
  have hu24 := Try.underlying24
  have HR0 := Aside0.mk hr0
  have HC0 := Aside0.mk hc0
  clear hr0 hc0
  have HB := Aside0.mk (Below.refl w.heap.size w)
  have H : (spec_In.l0 k a1 l0 (l0.length : Int) 0) = some r := h
  clear h
  have H' := Aside0.mk H
  clear H
  go_enter Try.func16, Try.ntmps16
  go_wp2
  go_loopg [9] k (fun kq v9 w' => ∃ (x9_1 : Int), v9 = .int .i64 x9_1 ∧ Aside0 (spec_In.l0 kq a1 l0 (l0.length : Int) x9_1 = some r) ∧ Aside0 (kq ≤ k) ∧ Aside0 (Below w.heap.size w w'))
  case atStart => exact ⟨(0), (by first | rfl | (simp; done) | (simp [*]; done)), H', ⟨Nat.le_refl _⟩, ⟨by repeat (first | (with_reducible first | exact HB.out | apply below_alloc | apply pw_below_drewN | apply below_drew1) | exact HB.out)⟩⟩
  case round =>
    clear H'
    try clear c1
    try clear p2
    obtain ⟨x9_1, rfl, HA, HK1, HB⟩ := hrel
    cases gk with
    | zero => exact absurd HA.out (by simp [spec_In.l0])
    | succ k1 =>
      have H := HA.out
      clear HA
      simp only [spec_In.l0] at H
      by_cases c3 : x9_1 < (l0.length : Int)
      · rw [if_pos c3] at H
        have c3b0 : decide (x9_1 < (l0.length : Int)) = true := decide_eq_true c3
        clear c3
        by_cases c4 : 0 ≤ x9_1
        · rw [if_pos c4] at H
          have c4b0 : decide (0 ≤ x9_1) = true := decide_eq_true c4
          clear c4
          by_cases c5 : x9_1 < (l0.length : Int)
          · rw [if_pos c5] at H
            have c5b0 : decide (x9_1 < (l0.length : Int)) = true := decide_eq_true c5
            clear c5
            by_cases c6 : ((rd_T24 l0 x9_1).f0) ≤ a1
            · rw [if_pos c6] at H
              have c6b0 : decide (((rd_T24 l0 x9_1).f0) ≤ a1) = true := decide_eq_true c6
              clear c6
              by_cases c7 : a1 < ((rd_T24 l0 x9_1).f1)
              · rw [if_pos c7] at H
                have c7b0 : decide (a1 < ((rd_T24 l0 x9_1).f1)) = true := decide_eq_true c7
                clear c7
                obtain rfl := Option.some.inj H
                have p238 : 0 ≤ (x9_1 : Int) := of_decide_eq_true (by first | (with_reducible assumption) | assumption)
                have q238 : x9_1 < (l0.length : Int) := of_decide_eq_true (by first | (with_reducible assumption) | assumption)
                obtain ⟨ad238, e238, hx238_0, hx238_1⟩ := at_T24 HR0.out x9_1 p238 q238
                cases e238
                replace hx238_0 := (HB.out.cell (World.block_lt_of_cell? w _ hx238_0)).trans hx238_0
                replace hx238_1 := (HB.out.cell (World.block_lt_of_cell? w _ hx238_1)).trans hx238_1
                replace p238 := eq_true p238
                replace q238 := eq_true q238
                go_wp2_with (first | ((with_reducible refine gate_dst (N := 6) rfl ?_); refine box_event ?hg (N := 6) ?hd (cs := #[.int .i64 0, .int .i64 0]) (t := 24) ?hr ?_; (case hd => rfl); (case hg => rfl); (case hr => first | (go_simp; done) | (go_simp; rfl)); intro gb239 hg w8 hbox hb; have n0_ := Aside0.mk (below_step (by repeat (first | (with_reducible first | exact HB.out | apply below_alloc | apply pw_below_drewN | apply below_drew1) | exact HB.out)) hb); have n1_ := Aside0.mk (hbox); have n2_ := Aside0.mk ((by rw [hg]; exact (below_size (by repeat (first | (with_reducible first | exact HB.out | apply below_alloc | apply pw_below_drewN | apply below_drew1) | exact HB.out))) : w.heap.size ≤ gb239)); have n3_ := Aside0.mk ((by rw [hg]; exact (below_size (by repeat (first | (with_reducible first | exact HB.out | apply below_alloc | apply pw_below_drewN | apply below_drew1) | exact HB.out))) : w.heap.size ≤ gb239)); clear HB; have HB := n0_; have BK239 := n1_; have GW239 := n2_; have GE239 := n3_; clear n0_ n1_ n2_ n3_; clear hb hbox hg; have hcz9_0 : w8.cell? ⟨gb239, 0, none⟩ = some (.int .i64 0) := (blk_cell BK239.out 0).trans rfl; have hcz9_1 : w8.cell? ⟨gb239, 1, none⟩ = some (.int .i64 0) := (blk_cell BK239.out 1).trans rfl; have hfz9_0 := blk_frozen BK239.out 0; have hfz9_1 := blk_frozen BK239.out 1))
                go_ret
                exact ⟨by first | rfl | (simp [errW_none, errW_some] <;> rfl) | (simp [*, errW_none, errW_some] <;> rfl), by repeat (first | (with_reducible first | exact HB.out | apply below_alloc | apply pw_below_drewN | apply below_drew1 | refine below_set ?_ GE239.out) | exact HB.out)⟩
              · rw [if_neg c7] at H
                have c7b0 : decide (a1 < ((rd_T24 l0 x9_1).f1)) = false := decide_eq_false c7
                clear c7
                have H' := Aside0.mk H
                clear H
                have p238 : 0 ≤ (x9_1 : Int) := of_decide_eq_true (by first | (with_reducible assumption) | assumption)
                have q238 : x9_1 < (l0.length : Int) := of_decide_eq_true (by first | (with_reducible assumption) | assumption)
                obtain ⟨ad238, e238, hx238_0, hx238_1⟩ := at_T24 HR0.out x9_1 p238 q238
                cases e238
                replace hx238_0 := (HB.out.cell (World.block_lt_of_cell? w _ hx238_0)).trans hx238_0
                replace hx238_1 := (HB.out.cell (World.block_lt_of_cell? w _ hx238_1)).trans hx238_1
                replace p238 := eq_true p238
                replace q238 := eq_true q238
                go_wp2_with (first | ((with_reducible refine gate_dst (N := 6) rfl ?_); refine box_event ?hg (N := 6) ?hd (cs := #[.int .i64 0, .int .i64 0]) (t := 24) ?hr ?_; (case hd => rfl); (case hg => rfl); (case hr => first | (go_simp; done) | (go_simp; rfl)); intro gb239 hg w10 hbox hb; have n0_ := Aside0.mk (below_step (by repeat (first | (with_reducible first | exact HB.out | apply below_alloc | apply pw_below_drewN | apply below_drew1) | exact HB.out)) hb); have n1_ := Aside0.mk (hbox); have n2_ := Aside0.mk ((by rw [hg]; exact (below_size (by repeat (first | (with_reducible first | exact HB.out | apply below_alloc | apply pw_below_drewN | apply below_drew1) | exact HB.out))) : w.heap.size ≤ gb239)); have n3_ := Aside0.mk ((by rw [hg]; exact (below_size (by repeat (first | (with_reducible first | exact HB.out | apply below_alloc | apply pw_below_drewN | apply below_drew1) | exact HB.out))) : w.heap.size ≤ gb239)); clear HB; have HB := n0_; have BK239 := n1_; have GW239 := n2_; have GE239 := n3_; clear n0_ n1_ n2_ n3_; clear hb hbox hg; have hcz11_0 : w10.cell? ⟨gb239, 0, none⟩ = some (.int .i64 0) := (blk_cell BK239.out 0).trans rfl; have hcz11_1 : w10.cell? ⟨gb239, 1, none⟩ = some (.int .i64 0) := (blk_cell BK239.out 1).trans rfl; have hfz11_0 := blk_frozen BK239.out 0; have hfz11_1 := blk_frozen BK239.out 1))
                go_roundg k1
                case measure => have := HK1.out; omega
                case rel => exact ⟨(wrap64 (x9_1 + 1)), (by first | rfl | (simp; done) | (simp [*]; done)), H', ⟨by have := HK1.out; omega⟩, ⟨by repeat (first | (with_reducible first | exact HB.out | apply below_alloc | apply pw_below_drewN | apply below_drew1 | refine below_set ?_ GE239.out) | exact HB.out)⟩⟩
            · rw [if_neg c6] at H
              have c6b0 : decide (((rd_T24 l0 x9_1).f0) ≤ a1) = false := decide_eq_false c6
              clear c6
              have H' := Aside0.mk H
              clear H
              have p238 : 0 ≤ (x9_1 : Int) := of_decide_eq_true (by first | (with_reducible assumption) | assumption)
              have q238 : x9_1 < (l0.length : Int) := of_decide_eq_true (by first | (with_reducible assumption) | assumption)
              obtain ⟨ad238, e238, hx238_0, hx238_1⟩ := at_T24 HR0.out x9_1 p238 q238
              cases e238
              replace hx238_0 := (HB.out.cell (World.block_lt_of_cell? w _ hx238_0)).trans hx238_0
              replace hx238_1 := (HB.out.cell (World.block_lt_of_cell? w _ hx238_1)).trans hx238_1
              replace p238 := eq_true p238
              replace q238 := eq_true q238
              go_wp2_with (first | ((with_reducible refine gate_dst (N := 6) rfl ?_); refine box_event ?hg (N := 6) ?hd (cs := #[.int .i64 0, .int .i64 0]) (t := 24) ?hr ?_; (case hd => rfl); (case hg => rfl); (case hr => first | (go_simp; done) | (go_simp; rfl)); intro gb239 hg w12 hbox hb; have n0_ := Aside0.mk (below_step (by repeat (first | (with_reducible first | exact HB.out | apply below_alloc | apply pw_below_drewN | apply below_drew1) | exact HB.out)) hb); have n1_ := Aside0.mk (hbox); have n2_ := Aside0.mk ((by rw [hg]; exact (below_size (by repeat (first | (with_reducible first | exact HB.out | apply below_alloc | apply pw_below_drewN | apply below_drew1) | exact HB.out))) : w.heap.size ≤ gb239)); have n3_ := Aside0.mk ((by rw [hg]; exact (below_size (by repeat (first | (with_reducible first | exact HB.out | apply below_alloc | apply pw_below_drewN | apply below_drew1) | exact HB.out))) : w.heap.size ≤ gb239)); clear HB; have HB := n0_; have BK239 := n1_; have GW239 := n2_; have GE239 := n3_; clear n0_ n1_ n2_ n3_; clear hb hbox hg; have hcz13_0 : w12.cell? ⟨gb239, 0, none⟩ = some (.int .i64 0) := (blk_cell BK239.out 0).trans rfl; have hcz13_1 : w12.cell? ⟨gb239, 1, none⟩ = some (.int .i64 0) := (blk_cell BK239.out 1).trans rfl; have hfz13_0 := blk_frozen BK239.out 0; have hfz13_1 := blk_frozen BK239.out 1))
              go_roundg k1
              case measure => have := HK1.out; omega
              case rel => exact ⟨(wrap64 (x9_1 + 1)), (by first | rfl | (simp; done) | (simp [*]; done)), H', ⟨by have := HK1.out; omega⟩, ⟨by repeat (first | (with_reducible first | exact HB.out | apply below_alloc | apply pw_below_drewN | apply below_drew1 | refine below_set ?_ GE239.out) | exact HB.out)⟩⟩
          · rw [if_neg c5] at H
            exact absurd H (by simp)
        · rw [if_neg c4] at H
          exact absurd H (by simp)
      · rw [if_neg c3] at H
        have c3b0 : decide (x9_1 < (l0.length : Int)) = false := decide_eq_false c3
        clear c3
        obtain rfl := Option.some.inj H
        go_wp2
        go_ret
        exact ⟨by first | rfl | (simp [errW_none, errW_some] <;> rfl) | (simp [*, errW_none, errW_some] <;> rfl), by repeat (first | (with_reducible first | exact HB.out | apply below_alloc | apply pw_below_drewN | apply below_drew1) | exact HB.out)⟩

end Go.Proofs.Ytepealmdnaondaa.PAll
