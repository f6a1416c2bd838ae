-- Printed by a program of this session (mkprint.py over the kit's print.py)
import Derived.Test.YtepealmdnaondaaPAllx0
import Derived.Test.YtepealmdnaondaaPAllx4
import Derived.Test.YtepealmdnaondaaPAllx6
import Derived.Test.YtepealmdnaondaaExtra
namespace Go.Proofs.Ytepealmdnaondaa.PAll
open Go.RowKit Go.Proofs.YtepealmdnaondaaW.PrintWords Go.Proofs.YtepealmdnaondaaW.PrintLast Go.Proofs.YtepealmdnaondaaW.PrintMore
attribute [local go_sem] max2_int min2_int max_two min_two max_three min_three max_four min_four   -- for this text's walks alone
set_option linter.unusedVariables false
set_option linter.unusedSimpArgs false

/-! ### laws_FnMergeRanges: function 5 -/
mutual
def laws_FnMergeRanges.j0 : Nat → List (S24) → List (S24) → Int → Bool → Option (Bool)
  | 0, _, _, _, _ => none
  | k + 1, x0, x1, x2, x15 => if x15 = true then (some true) else (if (x0.length : Int) > 65536 then (laws_FnMergeRanges.j1 k x0 x1 x2 true) else (if (x1.length : Int) > 65536 then (laws_FnMergeRanges.j1 k x0 x1 x2 true) else ((spec_AreApart.f k x0).bind fun t240 => (if t240 = true then ((spec_AreApart.f k x1).bind fun t241 => (if t241 = true then ((spec_NoneInside.f k x0 x1).bind fun t242 => (laws_FnMergeRanges.j1 k x0 x1 x2 (!t242))) else (laws_FnMergeRanges.j1 k x0 x1 x2 true))) else (laws_FnMergeRanges.j1 k x0 x1 x2 true)))))
def laws_FnMergeRanges.j1 : Nat → List (S24) → List (S24) → Int → Bool → Option (Bool)
  | 0, _, _, _, _ => none
  | k + 1, x0, x1, x2, x39 => if x39 = true then (some true) else ((impl_MergeRanges.f k x0 x1).bind fun t243 => ((impl_MergeRanges.f k (([(⟨1, 2⟩ : S24)] : List (S24))) ([] : List (S24))).bind fun t249 => (if (t249.length : Int) = 1 then ((spec_AreApart.f k t243).bind fun t252 => (if t252 = true then ((spec_In.f k t243 x2).bind fun t253 => ((spec_In.f k x0 x2).bind fun t254 => (if t254 = true then (some (t253 == true)) else ((spec_In.f k x1 x2).bind fun t255 => (some (t253 == t255)))))) else (some false))) else (some false))))
end
def laws_FnMergeRanges.f (k : Nat) (l0 : List (S24)) (l1 : List (S24)) (a2 : Int) : Option (Bool) := if (l0.length : Int) > 2147483647 then (laws_FnMergeRanges.j0 k l0 l1 a2 true) else (laws_FnMergeRanges.j0 k l0 l1 a2 (decide ((l1.length : Int) > 2147483647)))
theorem laws_FnMergeRanges.mono_l : ∀ k, (∀ y0 y1 y2 y3, LeO (laws_FnMergeRanges.j0 k y0 y1 y2 y3) (laws_FnMergeRanges.j0 (k + 1) y0 y1 y2 y3)) ∧ (∀ y0 y1 y2 y3, LeO (laws_FnMergeRanges.j1 k y0 y1 y2 y3) (laws_FnMergeRanges.j1 (k + 1) y0 y1 y2 y3))
  | 0 => ⟨fun _ _ _ _ r h => by simp [laws_FnMergeRanges.j0] at h, fun _ _ _ _ r h => by simp [laws_FnMergeRanges.j1] at h⟩
  | k + 1 => by
    obtain ⟨ih0, ih1⟩ := laws_FnMergeRanges.mono_l k
    refine ⟨?_, ?_⟩
    · intro y0 y1 y2 y3
      unfold laws_FnMergeRanges.j0
      repeat' first
      | (with_reducible exact ih0 _ _ _ _)
      | (with_reducible exact ih1 _ _ _ _)
      | (with_reducible exact impl_MergeRanges.mono _ _ _)
      | (with_reducible exact spec_AreApart.mono _ _)
      | (with_reducible exact spec_In.mono _ _ _)
      | (with_reducible exact spec_NoneInside.mono _ _ _)
      | (with_reducible exact LeO.refl _)
      | (with_reducible exact LeO.none _)
      | (with_reducible refine LeO.ite ?_ ?_)
      | (with_reducible refine LeO.bind ?_ (fun _ => ?_))
      | exact ih0 _ _ _ _
      | exact ih1 _ _ _ _
      | exact impl_MergeRanges.mono _ _ _
      | exact spec_AreApart.mono _ _
      | exact spec_In.mono _ _ _
      | exact spec_NoneInside.mono _ _ _
      | exact LeO.none _
      | refine LeO.ite ?_ ?_
      | refine LeO.bind ?_ (fun _ => ?_)
    · intro y0 y1 y2 y3
      unfold laws_FnMergeRanges.j1
      repeat' first
      | (with_reducible exact ih0 _ _ _ _)
      | (with_reducible exact ih1 _ _ _ _)
      | (with_reducible exact impl_MergeRanges.mono _ _ _)
      | (with_reducible exact spec_AreApart.mono _ _)
      | (with_reducible exact spec_In.mono _ _ _)
      | (with_reducible exact spec_NoneInside.mono _ _ _)
      | (with_reducible exact LeO.refl _)
      | (with_reducible exact LeO.none _)
      | (with_reducible refine LeO.ite ?_ ?_)
      | (with_reducible refine LeO.bind ?_ (fun _ => ?_))
      | exact ih0 _ _ _ _
      | exact ih1 _ _ _ _
      | exact impl_MergeRanges.mono _ _ _
      | exact spec_AreApart.mono _ _
      | exact spec_In.mono _ _ _
      | exact spec_NoneInside.mono _ _ _
      | exact LeO.none _
      | refine LeO.ite ?_ ?_
      | refine LeO.bind ?_ (fun _ => ?_)
theorem laws_FnMergeRanges.mono : ∀ a0 a1 a2 k, LeO (laws_FnMergeRanges.f k a0 a1 a2) (laws_FnMergeRanges.f (k + 1) a0 a1 a2) := by
  intro a0 a1 a2 k
  obtain ⟨ih0, ih1⟩ := laws_FnMergeRanges.mono_l k
  unfold laws_FnMergeRanges.f
  repeat' first
      | (with_reducible exact ih0 _ _ _ _)
      | (with_reducible exact ih1 _ _ _ _)
      | (with_reducible exact impl_MergeRanges.mono _ _ _)
      | (with_reducible exact spec_AreApart.mono _ _)
      | (with_reducible exact spec_In.mono _ _ _)
      | (with_reducible exact spec_NoneInside.mono _ _ _)
      | (with_reducible exact LeO.refl _)
      | (with_reducible exact LeO.none _)
      | (with_reducible refine LeO.ite ?_ ?_)
      | (with_reducible refine LeO.bind ?_ (fun _ => ?_))
      | exact ih0 _ _ _ _
      | exact ih1 _ _ _ _
      | exact impl_MergeRanges.mono _ _ _
      | exact spec_AreApart.mono _ _
      | exact spec_In.mono _ _ _
      | exact spec_NoneInside.mono _ _ _
      | exact LeO.none _
      | refine LeO.ite ?_ ?_
      | refine LeO.bind ?_ (fun _ => ?_)
set_option maxHeartbeats 8000000 in
set_option maxRecDepth 100000 in
theorem laws_FnMergeRanges.calls (k : Nat) (A0 : Option Addr) (c0 : Nat) (l0 : List (S24)) (A1 : Option Addr) (c1 : Nat) (l1 : List (S24)) (a2 : Int) (r : Bool) (w : World) (hr0 : Kd.C k24 w A0 l0.length l0) (hc0 : l0.length ≤ c0) (hr1 : Kd.C k24 w A1 l1.length l1) (hc1 : l1.length ≤ c1) (h : laws_FnMergeRanges.f k l0 l1 a2 = some r) :
    Calls Try.prog 5 #[.slice A0 l0.length c0, .slice A1 l1.length c1, .int .i64 a2] w fun e w' => e = .returned (.bool r) ∧ Below w.heap.size w w' := by
  have hu24 := Try.underlying24
  have HR0 := Aside0.mk hr0
  have HC0 := Aside0.mk hc0
  clear hr0 hc0
  have HR1 := Aside0.mk hr1
  have HC1 := Aside0.mk hc1
  clear hr1 hc1
  have HB := Aside0.mk (Below.refl w.heap.size w)
  have H : (if (l0.length : Int) > 2147483647 then (laws_FnMergeRanges.j0 k l0 l1 a2 true) else (laws_FnMergeRanges.j0 k l0 l1 a2 (decide ((l1.length : Int) > 2147483647)))) = some r := h
  clear h
  have HC4 := Aside0.mk H
  clear H
  go_enter Try.func5, Try.ntmps5
  go_upto_region 1 with (fail)
  go_cut [15] (fun v15 wc => ∃ (kq : Nat) (x15_3 : Bool), v15 = .bool x15_3 ∧ Aside0 (laws_FnMergeRanges.j0 kq l0 l1 a2 x15_3 = some r) ∧ Aside0 (kq ≤ k) ∧ Aside0 (Below w.heap.size w wc))
  case first =>
    have H := HC4.out
    clear HC4
    by_cases c5 : (l0.length : Int) > 2147483647
    · rw [if_pos c5] at H
      have c5b0 : decide (2147483647 < (l0.length : Int)) = true := decide_eq_true c5
      have c5b1 : decide (2147483647 < l0.length) = true := decide_eq_true (by omega)
      clear c5
      (first | rw [c5b0] | (simp only [i64_w, i32_w]; rw [c5b0]) | skip)
      have H' := Aside0.mk H
      clear H
      go_wp2
      go_meet
      case rel => exact ⟨_, (true), (by first | rfl | (simp; done) | (simp [*]; done)), H', ⟨by first | omega | exact Nat.le_refl _⟩, ⟨by repeat (first | (with_reducible first | exact HB.out | apply below_alloc | apply pw_below_drewN | apply below_drew1) | exact HB.out)⟩⟩
    · rw [if_neg c5] at H
      have c5b0 : decide (2147483647 < (l0.length : Int)) = false := decide_eq_false c5
      have c5b1 : decide (2147483647 < l0.length) = false := decide_eq_false (by omega)
      clear c5
      (first | rw [c5b0] | (simp only [i64_w, i32_w]; rw [c5b0]) | skip)
      have H' := Aside0.mk H
      clear H
      go_wp2
      go_meet
      case rel => exact ⟨_, (decide ((l1.length : Int) > 2147483647)), (by first | rfl | (simp; done) | (simp [*]; done)), H', ⟨by first | omega | exact Nat.le_refl _⟩, ⟨by repeat (first | (with_reducible first | exact HB.out | apply below_alloc | apply pw_below_drewN | apply below_drew1) | exact HB.out)⟩⟩
  case rest =>
    clear HC4
    try clear c1
    try clear p2
    try clear c5
    try clear c5b0
    try clear c5b1
    obtain ⟨kq, x15_3, rfl, HA, HJ3, HB⟩ := hcut
    cases kq with
    | zero => exact absurd HA.out (by simp [laws_FnMergeRanges.j0])
    | succ kj3 =>
      have H := HA.out
      clear HA
      simp only [laws_FnMergeRanges.j0] at H
      by_cases c6 : x15_3 = true
      · subst c6
        have H1 : (some true) = some r := by rw [if_pos rfl] at H; exact H
        clear H
        have H := H1
        clear H1
        obtain rfl := Option.some.inj H
        go_wp2
        go_ret
        exact ⟨by first | rfl | (simp [errW_none, errW_some] <;> rfl) | (simp [*, errW_none, errW_some] <;> rfl), by repeat (first | (with_reducible first | exact HB.out | apply below_alloc | apply pw_below_drewN | apply below_drew1) | exact HB.out)⟩
      · replace c6 := Bool.eq_false_iff.mpr c6
        subst c6
        have H1 : (if (l0.length : Int) > 65536 then (laws_FnMergeRanges.j1 kj3 l0 l1 a2 true) else (if (l1.length : Int) > 65536 then (laws_FnMergeRanges.j1 kj3 l0 l1 a2 true) else ((spec_AreApart.f kj3 l0).bind fun t240 => (if t240 = true then ((spec_AreApart.f kj3 l1).bind fun t241 => (if t241 = true then ((spec_NoneInside.f kj3 l0 l1).bind fun t242 => (laws_FnMergeRanges.j1 kj3 l0 l1 a2 (!t242))) else (laws_FnMergeRanges.j1 kj3 l0 l1 a2 true))) else (laws_FnMergeRanges.j1 kj3 l0 l1 a2 true))))) = some r := by rw [if_neg (show ¬ (false = true) by decide)] at H; exact H
        clear H
        have H := H1
        clear H1
        have HC7 := Aside0.mk H
        clear H
        go_upto_region 3 with (fail)
        go_cut [39] (fun v39 wc => ∃ (kq : Nat) (x39_6 : Bool), v39 = .bool x39_6 ∧ Aside0 (laws_FnMergeRanges.j1 kq l0 l1 a2 x39_6 = some r) ∧ Aside0 (kq ≤ kj3) ∧ Aside0 (Below w.heap.size w wc))
        case first =>
          have H := HC7.out
          clear HC7
          by_cases c8 : (l0.length : Int) > 65536
          · rw [if_pos c8] at H
            have c8b0 : decide (65536 < (l0.length : Int)) = true := decide_eq_true c8
            have c8b1 : decide (65536 < l0.length) = true := decide_eq_true (by omega)
            clear c8
            (first | rw [c8b0] | (simp only [i64_w, i32_w]; rw [c8b0]) | skip)
            have H' := Aside0.mk H
            clear H
            go_wp2
            go_meet
            case rel => exact ⟨_, (true), (by first | rfl | (simp; done) | (simp [*]; done)), H', ⟨by have := HJ3.out; first | omega | exact Nat.le_refl _⟩, ⟨by repeat (first | (with_reducible first | exact HB.out | apply below_alloc | apply pw_below_drewN | apply below_drew1) | exact HB.out)⟩⟩
          · rw [if_neg c8] at H
            have c8b0 : decide (65536 < (l0.length : Int)) = false := decide_eq_false c8
            have c8b1 : decide (65536 < l0.length) = false := decide_eq_false (by omega)
            clear c8
            (first | rw [c8b0] | (simp only [i64_w, i32_w]; rw [c8b0]) | skip)
            by_cases c9 : (l1.length : Int) > 65536
            · rw [if_pos c9] at H
              have c9b0 : decide (65536 < (l1.length : Int)) = true := decide_eq_true c9
              have c9b1 : decide (65536 < l1.length) = true := decide_eq_true (by omega)
              clear c9
              have H' := Aside0.mk H
              clear H
              go_wp2
              go_meet
              case rel => exact ⟨_, (true), (by first | rfl | (simp; done) | (simp [*]; done)), H', ⟨by have := HJ3.out; first | omega | exact Nat.le_refl _⟩, ⟨by repeat (first | (with_reducible first | exact HB.out | apply below_alloc | apply pw_below_drewN | apply below_drew1) | exact HB.out)⟩⟩
            · rw [if_neg c9] at H
              have c9b0 : decide (65536 < (l1.length : Int)) = false := decide_eq_false c9
              have c9b1 : decide (65536 < l1.length) = false := decide_eq_false (by omega)
              clear c9
              replace H := Option.bind_eq_some_iff.mp H
              obtain ⟨t240, A100, H⟩ := H
              replace H : (if t240 = true then ((spec_AreApart.f kj3 l1).bind fun t241 => (if t241 = true then ((spec_NoneInside.f kj3 l0 l1).bind fun t242 => (laws_FnMergeRanges.j1 kj3 l0 l1 a2 (!t242))) else (laws_FnMergeRanges.j1 kj3 l0 l1 a2 true))) else (laws_FnMergeRanges.j1 kj3 l0 l1 a2 true)) = some r := H
              have A10 := Aside0.mk A100
              clear A100
              by_cases c11 : t240 = true
              · subst c11
                have H1 : ((spec_AreApart.f kj3 l1).bind fun t241 => (if t241 = true then ((spec_NoneInside.f kj3 l0 l1).bind fun t242 => (laws_FnMergeRanges.j1 kj3 l0 l1 a2 (!t242))) else (laws_FnMergeRanges.j1 kj3 l0 l1 a2 true))) = some r := by rw [if_pos rfl] at H; exact H
                clear H
                have H := H1
                clear H1
                replace H := Option.bind_eq_some_iff.mp H
                obtain ⟨t241, A120, H⟩ := H
                replace H : (if t241 = true then ((spec_NoneInside.f kj3 l0 l1).bind fun t242 => (laws_FnMergeRanges.j1 kj3 l0 l1 a2 (!t242))) else (laws_FnMergeRanges.j1 kj3 l0 l1 a2 true)) = some r := H
                have A12 := Aside0.mk A120
                clear A120
                by_cases c13 : t241 = true
                · subst c13
                  have H1 : ((spec_NoneInside.f kj3 l0 l1).bind fun t242 => (laws_FnMergeRanges.j1 kj3 l0 l1 a2 (!t242))) = some r := by rw [if_pos rfl] at H; exact H
                  clear H
                  have H := H1
                  clear H1
                  replace H := Option.bind_eq_some_iff.mp H
                  obtain ⟨t242, A140, H⟩ := H
                  replace H : (laws_FnMergeRanges.j1 kj3 l0 l1 a2 (!t242)) = some r := H
                  have A14 := Aside0.mk A140
                  clear A140
                  have H' := Aside0.mk H
                  clear H
                  go_wp2_with (first | (go_at_call 13; (with_reducible refine (spec_AreApart.calls kj3 _ _ l0 true _ ?side1 ?side2 A10.out).mono ?_); (case side1 => repeat (first | exact (Kd.C_below HR0.out HB.out) | (with_reducible refine Kd.C_alloc ?_ _) | (with_reducible refine Kd.C_drewN ?_ _) | (with_reducible refine Kd.C_drew ?_))); (case side2 => exact HC0.out); rintro e w15 ⟨rfl, hb⟩; have n0_ := Aside0.mk (below_step (by repeat (first | (with_reducible first | exact HB.out | apply below_alloc | apply pw_below_drewN | apply below_drew1) | exact HB.out)) hb); clear HB; have HB := n0_; clear n0_; (try clear hb); (try clear hb2); (try clear hk); (try clear hi)) | (go_at_call 13; (with_reducible refine (spec_AreApart.calls kj3 _ _ l1 true _ ?side1 ?side2 A12.out).mono ?_); (case side1 => repeat (first | exact (Kd.C_below HR1.out HB.out) | (with_reducible refine Kd.C_alloc ?_ _) | (with_reducible refine Kd.C_drewN ?_ _) | (with_reducible refine Kd.C_drew ?_))); (case side2 => exact HC1.out); rintro e w16 ⟨rfl, hb⟩; have n0_ := Aside0.mk (below_step (by repeat (first | (with_reducible first | exact HB.out | apply below_alloc | apply pw_below_drewN | apply below_drew1) | exact HB.out)) hb); clear HB; have HB := n0_; clear n0_; (try clear hb); (try clear hb2); (try clear hk); (try clear hi)) | (go_at_call 14; (with_reducible refine (spec_NoneInside.calls kj3 _ _ l0 _ _ l1 t242 _ ?side1 ?side2 ?side3 ?side4 A14.out).mono ?_); (case side1 => repeat (first | exact (Kd.C_below HR0.out HB.out) | (with_reducible refine Kd.C_alloc ?_ _) | (with_reducible refine Kd.C_drewN ?_ _) | (with_reducible refine Kd.C_drew ?_))); (case side2 => exact HC0.out); (case side3 => repeat (first | exact (Kd.C_below HR1.out HB.out) | (with_reducible refine Kd.C_alloc ?_ _) | (with_reducible refine Kd.C_drewN ?_ _) | (with_reducible refine Kd.C_drew ?_))); (case side4 => exact HC1.out); rintro e w17 ⟨rfl, hb⟩; have n0_ := Aside0.mk (below_step (by repeat (first | (with_reducible first | exact HB.out | apply below_alloc | apply pw_below_drewN | apply below_drew1) | exact HB.out)) hb); clear HB; have HB := n0_; clear n0_; (try clear hb); (try clear hb2); (try clear hk); (try clear hi)))
                  go_meet
                  case rel => exact ⟨_, (!t242), (by first | rfl | (simp; done) | (simp [*]; done)), H', ⟨by have := HJ3.out; first | omega | exact Nat.le_refl _⟩, ⟨by repeat (first | (with_reducible first | exact HB.out | apply below_alloc | apply pw_below_drewN | apply below_drew1) | exact HB.out)⟩⟩
                · replace c13 := Bool.eq_false_iff.mpr c13
                  subst c13
                  have H1 : (laws_FnMergeRanges.j1 kj3 l0 l1 a2 true) = some r := by rw [if_neg (show ¬ (false = true) by decide)] at H; exact H
                  clear H
                  have H := H1
                  clear H1
                  have H' := Aside0.mk H
                  clear H
                  go_wp2_with (first | (go_at_call 13; (with_reducible refine (spec_AreApart.calls kj3 _ _ l0 true _ ?side1 ?side2 A10.out).mono ?_); (case side1 => repeat (first | exact (Kd.C_below HR0.out HB.out) | (with_reducible refine Kd.C_alloc ?_ _) | (with_reducible refine Kd.C_drewN ?_ _) | (with_reducible refine Kd.C_drew ?_))); (case side2 => exact HC0.out); rintro e w18 ⟨rfl, hb⟩; have n0_ := Aside0.mk (below_step (by repeat (first | (with_reducible first | exact HB.out | apply below_alloc | apply pw_below_drewN | apply below_drew1) | exact HB.out)) hb); clear HB; have HB := n0_; clear n0_; (try clear hb); (try clear hb2); (try clear hk); (try clear hi)) | (go_at_call 13; (with_reducible refine (spec_AreApart.calls kj3 _ _ l1 false _ ?side1 ?side2 A12.out).mono ?_); (case side1 => repeat (first | exact (Kd.C_below HR1.out HB.out) | (with_reducible refine Kd.C_alloc ?_ _) | (with_reducible refine Kd.C_drewN ?_ _) | (with_reducible refine Kd.C_drew ?_))); (case side2 => exact HC1.out); rintro e w19 ⟨rfl, hb⟩; have n0_ := Aside0.mk (below_step (by repeat (first | (with_reducible first | exact HB.out | apply below_alloc | apply pw_below_drewN | apply below_drew1) | exact HB.out)) hb); clear HB; have HB := n0_; clear n0_; (try clear hb); (try clear hb2); (try clear hk); (try clear hi)))
                  go_meet
                  case rel => exact ⟨_, (true), (by first | rfl | (simp; done) | (simp [*]; done)), H', ⟨by have := HJ3.out; first | omega | exact Nat.le_refl _⟩, ⟨by repeat (first | (with_reducible first | exact HB.out | apply below_alloc | apply pw_below_drewN | apply below_drew1) | exact HB.out)⟩⟩
              · replace c11 := Bool.eq_false_iff.mpr c11
                subst c11
                have H1 : (laws_FnMergeRanges.j1 kj3 l0 l1 a2 true) = some r := by rw [if_neg (show ¬ (false = true) by decide)] at H; exact H
                clear H
                have H := H1
                clear H1
                have H' := Aside0.mk H
                clear H
                go_wp2_with (first | (go_at_call 13; (with_reducible refine (spec_AreApart.calls kj3 _ _ l0 false _ ?side1 ?side2 A10.out).mono ?_); (case side1 => repeat (first | exact (Kd.C_below HR0.out HB.out) | (with_reducible refine Kd.C_alloc ?_ _) | (with_reducible refine Kd.C_drewN ?_ _) | (with_reducible refine Kd.C_drew ?_))); (case side2 => exact HC0.out); rintro e w20 ⟨rfl, hb⟩; have n0_ := Aside0.mk (below_step (by repeat (first | (with_reducible first | exact HB.out | apply below_alloc | apply pw_below_drewN | apply below_drew1) | exact HB.out)) hb); clear HB; have HB := n0_; clear n0_; (try clear hb); (try clear hb2); (try clear hk); (try clear hi)))
                go_meet
                case rel => exact ⟨_, (true), (by first | rfl | (simp; done) | (simp [*]; done)), H', ⟨by have := HJ3.out; first | omega | exact Nat.le_refl _⟩, ⟨by repeat (first | (with_reducible first | exact HB.out | apply below_alloc | apply pw_below_drewN | apply below_drew1) | exact HB.out)⟩⟩
        case rest =>
          clear HC7
          try clear c1
          try clear p2
          try clear c5
          try clear c5b0
          try clear c5b1
          try clear c6
          try clear c8
          try clear c8b0
          try clear c8b1
          try clear c9
          try clear c9b0
          try clear c9b1
          try clear c11
          try clear c13
          try clear p2
          obtain ⟨kq, x39_6, rfl, HA, HJ6, HB⟩ := hcut
          cases kq with
          | zero => exact absurd HA.out (by simp [laws_FnMergeRanges.j1])
          | succ kj6 =>
            have H := HA.out
            clear HA
            simp only [laws_FnMergeRanges.j1] at H
            by_cases c21 : x39_6 = true
            · subst c21
              have H1 : (some true) = some r := by rw [if_pos rfl] at H; exact H
              clear H
              have H := H1
              clear H1
              obtain rfl := Option.some.inj H
              go_wp2
              go_ret
              exact ⟨by first | rfl | (simp [errW_none, errW_some] <;> rfl) | (simp [*, errW_none, errW_some] <;> rfl), by repeat (first | (with_reducible first | exact HB.out | apply below_alloc | apply pw_below_drewN | apply below_drew1) | exact HB.out)⟩
            · replace c21 := Bool.eq_false_iff.mpr c21
              subst c21
              have H1 : ((impl_MergeRanges.f kj6 l0 l1).bind fun t243 => ((impl_MergeRanges.f kj6 (([(⟨1, 2⟩ : S24)] : List (S24))) ([] : List (S24))).bind fun t249 => (if (t249.length : Int) = 1 then ((spec_AreApart.f kj6 t243).bind fun t252 => (if t252 = true then ((spec_In.f kj6 t243 a2).bind fun t253 => ((spec_In.f kj6 l0 a2).bind fun t254 => (if t254 = true then (some (t253 == true)) else ((spec_In.f kj6 l1 a2).bind fun t255 => (some (t253 == t255)))))) else (some false))) else (some false)))) = some r := by rw [if_neg (show ¬ (false = true) by decide)] at H; exact H
              clear H
              have H := H1
              clear H1
              replace H := Option.bind_eq_some_iff.mp H
              obtain ⟨t243, A220, H⟩ := H
              replace H : ((impl_MergeRanges.f kj6 (([(⟨1, 2⟩ : S24)] : List (S24))) ([] : List (S24))).bind fun t249 => (if (t249.length : Int) = 1 then ((spec_AreApart.f kj6 t243).bind fun t252 => (if t252 = true then ((spec_In.f kj6 t243 a2).bind fun t253 => ((spec_In.f kj6 l0 a2).bind fun t254 => (if t254 = true then (some (t253 == true)) else ((spec_In.f kj6 l1 a2).bind fun t255 => (some (t253 == t255)))))) else (some false))) else (some false))) = some r := H
              have A22 := Aside0.mk A220
              clear A220
              obtain ⟨y246, hy246⟩ : ∃ y_ : List (S24), y_ = (([(⟨1, 2⟩ : S24)] : List (S24))) := ⟨_, rfl⟩
              replace H : ((impl_MergeRanges.f kj6 y246 ([] : List (S24))).bind fun t249 => (if (t249.length : Int) = 1 then ((spec_AreApart.f kj6 t243).bind fun t252 => (if t252 = true then ((spec_In.f kj6 t243 a2).bind fun t253 => ((spec_In.f kj6 l0 a2).bind fun t254 => (if t254 = true then (some (t253 == true)) else ((spec_In.f kj6 l1 a2).bind fun t255 => (some (t253 == t255)))))) else (some false))) else (some false))) = some r := by first | (rw [hy246]; with_reducible exact H) | (have H2_ := (Option.bind_some _ _).symm.trans H; rw [hy246]; with_reducible exact H2_) | (have H2_ := (Option.bind_some _ _).symm.trans H; with_reducible exact H2_) | with_reducible exact H | (rw [hy246]; exact H) | exact H
              have Ny246 := Aside0.mk hy246
              clear hy246
              replace H := Option.bind_eq_some_iff.mp H
              obtain ⟨t249, A230, H⟩ := H
              replace H : (if (t249.length : Int) = 1 then ((spec_AreApart.f kj6 t243).bind fun t252 => (if t252 = true then ((spec_In.f kj6 t243 a2).bind fun t253 => ((spec_In.f kj6 l0 a2).bind fun t254 => (if t254 = true then (some (t253 == true)) else ((spec_In.f kj6 l1 a2).bind fun t255 => (some (t253 == t255)))))) else (some false))) else (some false)) = some r := H
              have A23 := Aside0.mk A230
              clear A230
              by_cases c24 : (t249.length : Int) = 1
              · rw [if_pos c24] at H
                have c24b0 : ((t249.length : Int) == 1) = true := beq_iff_eq.mpr c24
                have c24b1 : ((t249.length : Int) != 1) = false := bne_eq_false_iff_eq.mpr c24
                clear c24
                replace H := Option.bind_eq_some_iff.mp H
                obtain ⟨t252, A250, H⟩ := H
                replace H : (if t252 = true then ((spec_In.f kj6 t243 a2).bind fun t253 => ((spec_In.f kj6 l0 a2).bind fun t254 => (if t254 = true then (some (t253 == true)) else ((spec_In.f kj6 l1 a2).bind fun t255 => (some (t253 == t255)))))) else (some false)) = some r := H
                have A25 := Aside0.mk A250
                clear A250
                by_cases c26 : t252 = true
                · subst c26
                  have H1 : ((spec_In.f kj6 t243 a2).bind fun t253 => ((spec_In.f kj6 l0 a2).bind fun t254 => (if t254 = true then (some (t253 == true)) else ((spec_In.f kj6 l1 a2).bind fun t255 => (some (t253 == t255)))))) = some r := by rw [if_pos rfl] at H; exact H
                  clear H
                  have H := H1
                  clear H1
                  replace H := Option.bind_eq_some_iff.mp H
                  obtain ⟨t253, A270, H⟩ := H
                  replace H : ((spec_In.f kj6 l0 a2).bind fun t254 => (if t254 = true then (some (t253 == true)) else ((spec_In.f kj6 l1 a2).bind fun t255 => (some (t253 == t255))))) = some r := H
                  have A27 := Aside0.mk A270
                  clear A270
                  replace H := Option.bind_eq_some_iff.mp H
                  obtain ⟨t254, A280, H⟩ := H
                  replace H : (if t254 = true then (some (t253 == true)) else ((spec_In.f kj6 l1 a2).bind fun t255 => (some (t253 == t255)))) = some r := H
                  have A28 := Aside0.mk A280
                  clear A280
                  by_cases c29 : t254 = true
                  · subst c29
                    have H1 : (some (t253 == true)) = some r := by rw [if_pos rfl] at H; exact H
                    clear H
                    have H := H1
                    clear H1
                    obtain rfl := Option.some.inj H
                    go_wp2_with (first | ((with_reducible refine gate_callee (f := 15) rfl ?_); refine goesL_ (some 42) rfl rfl Try.func15 (by kernel_rfl) rfl #[.slice A0 l0.length c0, .slice A1 l1.length c1] rfl (by (try simp only [List.map_toArray, List.map_cons, List.map_nil]); first | done | rfl | (simp only [List.length_drop, List.length_take]; rfl)) ?_; (with_reducible refine (impl_MergeRanges.calls kj6 _ _ l0 _ _ l1 t243 _ ?side1 ?side2 ?side3 ?side4 A22.out).mono ?_); (case side1 => repeat (first | exact (Kd.C_below HR0.out HB.out) | (with_reducible refine Kd.C_alloc ?_ _) | (with_reducible refine Kd.C_drewN ?_ _) | (with_reducible refine Kd.C_drew ?_))); (case side2 => exact HC0.out); (case side3 => repeat (first | exact (Kd.C_below HR1.out HB.out) | (with_reducible refine Kd.C_alloc ?_ _) | (with_reducible refine Kd.C_drewN ?_ _) | (with_reducible refine Kd.C_drew ?_))); (case side4 => exact HC1.out); rintro e w30 ⟨v244, rfl, ho0, hb⟩; refine ⟨_, rfl, ?_⟩; have n0_ := Aside0.mk (Kd.R_lower ho0 (below_size (by repeat (first | (with_reducible first | exact HB.out | apply below_alloc | apply pw_below_drewN | apply below_drew1) | exact HB.out)))); have n1_ := Aside0.mk (below_step (by repeat (first | (with_reducible first | exact HB.out | apply below_alloc | apply pw_below_drewN | apply below_drew1) | exact HB.out)) hb); clear HB; have HO245 := n0_; have HB := n1_; clear n0_ n1_; (try clear hb); (try clear hb2); (try clear hk); (try clear hi); (try clear ho0)) | ((with_reducible refine gate_dst (N := 44) rfl ?_); (try (refine gate_guard (by rfl) ?_; dsimp only)); refine Kd.R_lit k24 _ 24 ?hg (N := 44) ?hd (xs := ([(⟨1, 2⟩ : S24)] : List (S24))) (inner := [.int .i64 1, .int .i64 2]) (ok := fun _ => True) (okp := fun _ => True) ?hr ?hp (fun _ hk => hk) trivial (Below.refl _ _) (Nat.le_refl _) (by simp) ?_; (case hd => rfl); (case hg => rfl); (case hr => first | (go_simp; done) | (go_simp; rfl)); (case hp => exact (Reps.c2 (show Kd.M k24 _ _ _ (⟨1, 2⟩ : S24) [.int .i64 1, .int .i64 2] from (k24_mkM _ _ _ (⟨1, 2⟩ : S24) )) (Reps.none _ _))); intro v247 w31 ho32 hb hg_ hnew_; clear hg_ hnew_; (first | rw [← Ny246.out] at ho32 | (simp only [Int.reduceToNat] at ho32; rw [← Ny246.out] at ho32)); have n0_ := Aside0.mk (Kd.R_elder' (by (with_reducible repeat (first | apply Kd.R_alloc | apply Kd.R_drewN | apply Kd.R_drew)); exact HO245.out) (Kd.R_base ho32) hb); have n1_ := Aside0.mk (Kd.R_lower (Kd.R_new' ho32 (Kd.R_lt (by (with_reducible repeat (first | apply Kd.R_alloc | apply Kd.R_drewN | apply Kd.R_drew)); exact HO245.out))) (below_size (by repeat (first | (with_reducible first | exact HB.out | apply below_alloc | apply pw_below_drewN | apply below_drew1) | exact HB.out)))); have n2_ := Aside0.mk (below_step (by repeat (first | (with_reducible first | exact HB.out | apply below_alloc | apply pw_below_drewN | apply below_drew1) | exact HB.out)) hb); clear HO245; clear HB; have HO245 := n0_; have HO248 := n1_; have HB := n2_; clear n0_ n1_ n2_; clear hb ho32; obtain ⟨Ao33, co33, eo33⟩ := Kd.R_slice HO248.out; subst eo33) | ((with_reducible refine gate_callee (f := 15) rfl ?_); refine goesL_ (some 45) rfl rfl Try.func15 (by kernel_rfl) rfl #[.slice Ao33 y246.length co33, .slice none 0 0] rfl (by (try simp only [List.map_toArray, List.map_cons, List.map_nil]); first | done | rfl | (simp only [List.length_drop, List.length_take]; rfl)) ?_; (refine (impl_MergeRanges.calls kj6 _ _ y246 _ _ ([] : List (S24)) t249 _ ?side1 ?side2 ?side3 ?side4 A23.out).mono ?_); (case side1 => repeat (first | exact (Kd.R_reads' HO248.out).2.2 | (with_reducible refine Kd.C_alloc ?_ _) | (with_reducible refine Kd.C_drewN ?_ _) | (with_reducible refine Kd.C_drew ?_))); (case side2 => exact (Kd.R_reads' HO248.out).2.1); (case side3 => exact Kd.C_nil _ _); (case side4 => exact Nat.le_refl _); rintro e w34 ⟨v250, rfl, ho0, hb⟩; refine ⟨_, rfl, ?_⟩; have n0_ := Aside0.mk (Kd.R_elder' (by (with_reducible repeat (first | apply Kd.R_alloc | apply Kd.R_drewN | apply Kd.R_drew)); exact HO245.out) (Kd.R_base ho0) hb); have n1_ := Aside0.mk (Kd.R_elder' (by (with_reducible repeat (first | apply Kd.R_alloc | apply Kd.R_drewN | apply Kd.R_drew)); exact HO248.out) (Kd.R_base ho0) hb); have n2_ := Aside0.mk (Kd.R_lower (Kd.R_new' (Kd.R_new' ho0 (Kd.R_lt (by (with_reducible repeat (first | apply Kd.R_alloc | apply Kd.R_drewN | apply Kd.R_drew)); exact HO245.out))) (Kd.R_lt (by (with_reducible repeat (first | apply Kd.R_alloc | apply Kd.R_drewN | apply Kd.R_drew)); exact HO248.out))) (below_size (by repeat (first | (with_reducible first | exact HB.out | apply below_alloc | apply pw_below_drewN | apply below_drew1) | exact HB.out)))); have n3_ := Aside0.mk (below_step (by repeat (first | (with_reducible first | exact HB.out | apply below_alloc | apply pw_below_drewN | apply below_drew1) | exact HB.out)) hb); clear HO245; clear HO248; clear HB; have HO245 := n0_; have HO248 := n1_; have HO251 := n2_; have HB := n3_; clear n0_ n1_ n2_ n3_; (try clear hb); (try clear hb2); (try clear hk); (try clear hi); (try clear ho0); obtain ⟨Ao35, co35, eo35⟩ := Kd.R_slice HO251.out; subst eo35; obtain ⟨Ao36, co36, eo36⟩ := Kd.R_slice HO245.out; subst eo36) | ((with_reducible refine gate_callee (f := 13) rfl ?_); refine goesL_ (some 49) rfl rfl Try.func13 (by kernel_rfl) rfl #[.slice Ao36 t243.length co36] rfl (by (try simp only [List.map_toArray, List.map_cons, List.map_nil]); first | done | rfl | (simp only [List.length_drop, List.length_take]; rfl)) ?_; (with_reducible refine (spec_AreApart.calls kj6 _ _ t243 true _ ?side1 ?side2 A25.out).mono ?_); (case side1 => repeat (first | exact (Kd.R_reads' HO245.out).2.2 | (with_reducible refine Kd.C_alloc ?_ _) | (with_reducible refine Kd.C_drewN ?_ _) | (with_reducible refine Kd.C_drew ?_))); (case side2 => exact (Kd.R_reads' HO245.out).2.1); rintro e w37 ⟨rfl, hb⟩; refine ⟨_, rfl, ?_⟩; have n0_ := Aside0.mk (Kd.R_below (by (with_reducible repeat (first | apply Kd.R_alloc | apply Kd.R_drewN | apply Kd.R_drew)); exact HO245.out) hb); have n1_ := Aside0.mk (Kd.R_below (by (with_reducible repeat (first | apply Kd.R_alloc | apply Kd.R_drewN | apply Kd.R_drew)); exact HO248.out) hb); have n2_ := Aside0.mk (Kd.R_below (by (with_reducible repeat (first | apply Kd.R_alloc | apply Kd.R_drewN | apply Kd.R_drew)); exact HO251.out) hb); have n3_ := Aside0.mk (below_step (by repeat (first | (with_reducible first | exact HB.out | apply below_alloc | apply pw_below_drewN | apply below_drew1) | exact HB.out)) hb); clear HO245; clear HO248; clear HO251; clear HB; have HO245 := n0_; have HO248 := n1_; have HO251 := n2_; have HB := n3_; clear n0_ n1_ n2_ n3_; (try clear hb); (try clear hb2); (try clear hk); (try clear hi)) | (go_at_call 16; (with_reducible refine (spec_In.calls kj6 _ _ t243 a2 t253 _ ?side1 ?side2 A27.out).mono ?_); (case side1 => repeat (first | exact (Kd.R_reads' HO245.out).2.2 | (with_reducible refine Kd.C_alloc ?_ _) | (with_reducible refine Kd.C_drewN ?_ _) | (with_reducible refine Kd.C_drew ?_))); (case side2 => exact (Kd.R_reads' HO245.out).2.1); rintro e w38 ⟨rfl, hb⟩; have n0_ := Aside0.mk (Kd.R_below (by (with_reducible repeat (first | apply Kd.R_alloc | apply Kd.R_drewN | apply Kd.R_drew)); exact HO245.out) hb); have n1_ := Aside0.mk (Kd.R_below (by (with_reducible repeat (first | apply Kd.R_alloc | apply Kd.R_drewN | apply Kd.R_drew)); exact HO248.out) hb); have n2_ := Aside0.mk (Kd.R_below (by (with_reducible repeat (first | apply Kd.R_alloc | apply Kd.R_drewN | apply Kd.R_drew)); exact HO251.out) hb); have n3_ := Aside0.mk (below_step (by repeat (first | (with_reducible first | exact HB.out | apply below_alloc | apply pw_below_drewN | apply below_drew1) | exact HB.out)) hb); clear HO245; clear HO248; clear HO251; clear HB; have HO245 := n0_; have HO248 := n1_; have HO251 := n2_; have HB := n3_; clear n0_ n1_ n2_ n3_; (try clear hb); (try clear hb2); (try clear hk); (try clear hi)) | (go_at_call 16; (with_reducible refine (spec_In.calls kj6 _ _ l0 a2 true _ ?side1 ?side2 A28.out).mono ?_); (case side1 => repeat (first | exact (Kd.C_below HR0.out HB.out) | (with_reducible refine Kd.C_alloc ?_ _) | (with_reducible refine Kd.C_drewN ?_ _) | (with_reducible refine Kd.C_drew ?_))); (case side2 => exact HC0.out); rintro e w39 ⟨rfl, hb⟩; have n0_ := Aside0.mk (Kd.R_below (by (with_reducible repeat (first | apply Kd.R_alloc | apply Kd.R_drewN | apply Kd.R_drew)); exact HO245.out) hb); have n1_ := Aside0.mk (Kd.R_below (by (with_reducible repeat (first | apply Kd.R_alloc | apply Kd.R_drewN | apply Kd.R_drew)); exact HO248.out) hb); have n2_ := Aside0.mk (Kd.R_below (by (with_reducible repeat (first | apply Kd.R_alloc | apply Kd.R_drewN | apply Kd.R_drew)); exact HO251.out) hb); have n3_ := Aside0.mk (below_step (by repeat (first | (with_reducible first | exact HB.out | apply below_alloc | apply pw_below_drewN | apply below_drew1) | exact HB.out)) hb); clear HO245; clear HO248; clear HO251; clear HB; have HO245 := n0_; have HO248 := n1_; have HO251 := n2_; have HB := n3_; clear n0_ n1_ n2_ n3_; (try clear hb); (try clear hb2); (try clear hk); (try clear hi)))
                    go_ret
                    exact ⟨by first | rfl | (simp [errW_none, errW_some] <;> rfl) | (simp [*, errW_none, errW_some] <;> rfl), by repeat (first | (with_reducible first | exact HB.out | apply below_alloc | apply pw_below_drewN | apply below_drew1) | exact HB.out)⟩
                  · replace c29 := Bool.eq_false_iff.mpr c29
                    subst c29
                    have H1 : ((spec_In.f kj6 l1 a2).bind fun t255 => (some (t253 == t255))) = some r := by rw [if_neg (show ¬ (false = true) by decide)] at H; exact H
                    clear H
                    have H := H1
                    clear H1
                    replace H := Option.bind_eq_some_iff.mp H
                    obtain ⟨t255, A400, H⟩ := H
                    replace H : (some (t253 == t255)) = some r := H
                    have A40 := Aside0.mk A400
                    clear A400
                    obtain rfl := Option.some.inj H
                    go_wp2_with (first | ((with_reducible refine gate_callee (f := 15) rfl ?_); refine goesL_ (some 42) rfl rfl Try.func15 (by kernel_rfl) rfl #[.slice A0 l0.length c0, .slice A1 l1.length c1] rfl (by (try simp only [List.map_toArray, List.map_cons, List.map_nil]); first | done | rfl | (simp only [List.length_drop, List.length_take]; rfl)) ?_; (with_reducible refine (impl_MergeRanges.calls kj6 _ _ l0 _ _ l1 t243 _ ?side1 ?side2 ?side3 ?side4 A22.out).mono ?_); (case side1 => repeat (first | exact (Kd.C_below HR0.out HB.out) | (with_reducible refine Kd.C_alloc ?_ _) | (with_reducible refine Kd.C_drewN ?_ _) | (with_reducible refine Kd.C_drew ?_))); (case side2 => exact HC0.out); (case side3 => repeat (first | exact (Kd.C_below HR1.out HB.out) | (with_reducible refine Kd.C_alloc ?_ _) | (with_reducible refine Kd.C_drewN ?_ _) | (with_reducible refine Kd.C_drew ?_))); (case side4 => exact HC1.out); rintro e w41 ⟨v244, rfl, ho0, hb⟩; refine ⟨_, rfl, ?_⟩; have n0_ := Aside0.mk (Kd.R_lower ho0 (below_size (by repeat (first | (with_reducible first | exact HB.out | apply below_alloc | apply pw_below_drewN | apply below_drew1) | exact HB.out)))); have n1_ := Aside0.mk (below_step (by repeat (first | (with_reducible first | exact HB.out | apply below_alloc | apply pw_below_drewN | apply below_drew1) | exact HB.out)) hb); clear HB; have HO245 := n0_; have HB := n1_; clear n0_ n1_; (try clear hb); (try clear hb2); (try clear hk); (try clear hi); (try clear ho0)) | ((with_reducible refine gate_dst (N := 44) rfl ?_); (try (refine gate_guard (by rfl) ?_; dsimp only)); refine Kd.R_lit k24 _ 24 ?hg (N := 44) ?hd (xs := ([(⟨1, 2⟩ : S24)] : List (S24))) (inner := [.int .i64 1, .int .i64 2]) (ok := fun _ => True) (okp := fun _ => True) ?hr ?hp (fun _ hk => hk) trivial (Below.refl _ _) (Nat.le_refl _) (by simp) ?_; (case hd => rfl); (case hg => rfl); (case hr => first | (go_simp; done) | (go_simp; rfl)); (case hp => exact (Reps.c2 (show Kd.M k24 _ _ _ (⟨1, 2⟩ : S24) [.int .i64 1, .int .i64 2] from (k24_mkM _ _ _ (⟨1, 2⟩ : S24) )) (Reps.none _ _))); intro v247 w42 ho43 hb hg_ hnew_; clear hg_ hnew_; (first | rw [← Ny246.out] at ho43 | (simp only [Int.reduceToNat] at ho43; rw [← Ny246.out] at ho43)); have n0_ := Aside0.mk (Kd.R_elder' (by (with_reducible repeat (first | apply Kd.R_alloc | apply Kd.R_drewN | apply Kd.R_drew)); exact HO245.out) (Kd.R_base ho43) hb); have n1_ := Aside0.mk (Kd.R_lower (Kd.R_new' ho43 (Kd.R_lt (by (with_reducible repeat (first | apply Kd.R_alloc | apply Kd.R_drewN | apply Kd.R_drew)); exact HO245.out))) (below_size (by repeat (first | (with_reducible first | exact HB.out | apply below_alloc | apply pw_below_drewN | apply below_drew1) | exact HB.out)))); have n2_ := Aside0.mk (below_step (by repeat (first | (with_reducible first | exact HB.out | apply below_alloc | apply pw_below_drewN | apply below_drew1) | exact HB.out)) hb); clear HO245; clear HB; have HO245 := n0_; have HO248 := n1_; have HB := n2_; clear n0_ n1_ n2_; clear hb ho43; obtain ⟨Ao44, co44, eo44⟩ := Kd.R_slice HO248.out; subst eo44) | ((with_reducible refine gate_callee (f := 15) rfl ?_); refine goesL_ (some 45) rfl rfl Try.func15 (by kernel_rfl) rfl #[.slice Ao44 y246.length co44, .slice none 0 0] rfl (by (try simp only [List.map_toArray, List.map_cons, List.map_nil]); first | done | rfl | (simp only [List.length_drop, List.length_take]; rfl)) ?_; (refine (impl_MergeRanges.calls kj6 _ _ y246 _ _ ([] : List (S24)) t249 _ ?side1 ?side2 ?side3 ?side4 A23.out).mono ?_); (case side1 => repeat (first | exact (Kd.R_reads' HO248.out).2.2 | (with_reducible refine Kd.C_alloc ?_ _) | (with_reducible refine Kd.C_drewN ?_ _) | (with_reducible refine Kd.C_drew ?_))); (case side2 => exact (Kd.R_reads' HO248.out).2.1); (case side3 => exact Kd.C_nil _ _); (case side4 => exact Nat.le_refl _); rintro e w45 ⟨v250, rfl, ho0, hb⟩; refine ⟨_, rfl, ?_⟩; have n0_ := Aside0.mk (Kd.R_elder' (by (with_reducible repeat (first | apply Kd.R_alloc | apply Kd.R_drewN | apply Kd.R_drew)); exact HO245.out) (Kd.R_base ho0) hb); have n1_ := Aside0.mk (Kd.R_elder' (by (with_reducible repeat (first | apply Kd.R_alloc | apply Kd.R_drewN | apply Kd.R_drew)); exact HO248.out) (Kd.R_base ho0) hb); have n2_ := Aside0.mk (Kd.R_lower (Kd.R_new' (Kd.R_new' ho0 (Kd.R_lt (by (with_reducible repeat (first | apply Kd.R_alloc | apply Kd.R_drewN | apply Kd.R_drew)); exact HO245.out))) (Kd.R_lt (by (with_reducible repeat (first | apply Kd.R_alloc | apply Kd.R_drewN | apply Kd.R_drew)); exact HO248.out))) (below_size (by repeat (first | (with_reducible first | exact HB.out | apply below_alloc | apply pw_below_drewN | apply below_drew1) | exact HB.out)))); have n3_ := Aside0.mk (below_step (by repeat (first | (with_reducible first | exact HB.out | apply below_alloc | apply pw_below_drewN | apply below_drew1) | exact HB.out)) hb); clear HO245; clear HO248; clear HB; have HO245 := n0_; have HO248 := n1_; have HO251 := n2_; have HB := n3_; clear n0_ n1_ n2_ n3_; (try clear hb); (try clear hb2); (try clear hk); (try clear hi); (try clear ho0); obtain ⟨Ao46, co46, eo46⟩ := Kd.R_slice HO251.out; subst eo46; obtain ⟨Ao47, co47, eo47⟩ := Kd.R_slice HO245.out; subst eo47) | ((with_reducible refine gate_callee (f := 13) rfl ?_); refine goesL_ (some 49) rfl rfl Try.func13 (by kernel_rfl) rfl #[.slice Ao47 t243.length co47] rfl (by (try simp only [List.map_toArray, List.map_cons, List.map_nil]); first | done | rfl | (simp only [List.length_drop, List.length_take]; rfl)) ?_; (with_reducible refine (spec_AreApart.calls kj6 _ _ t243 true _ ?side1 ?side2 A25.out).mono ?_); (case side1 => repeat (first | exact (Kd.R_reads' HO245.out).2.2 | (with_reducible refine Kd.C_alloc ?_ _) | (with_reducible refine Kd.C_drewN ?_ _) | (with_reducible refine Kd.C_drew ?_))); (case side2 => exact (Kd.R_reads' HO245.out).2.1); rintro e w48 ⟨rfl, hb⟩; refine ⟨_, rfl, ?_⟩; have n0_ := Aside0.mk (Kd.R_below (by (with_reducible repeat (first | apply Kd.R_alloc | apply Kd.R_drewN | apply Kd.R_drew)); exact HO245.out) hb); have n1_ := Aside0.mk (Kd.R_below (by (with_reducible repeat (first | apply Kd.R_alloc | apply Kd.R_drewN | apply Kd.R_drew)); exact HO248.out) hb); have n2_ := Aside0.mk (Kd.R_below (by (with_reducible repeat (first | apply Kd.R_alloc | apply Kd.R_drewN | apply Kd.R_drew)); exact HO251.out) hb); have n3_ := Aside0.mk (below_step (by repeat (first | (with_reducible first | exact HB.out | apply below_alloc | apply pw_below_drewN | apply below_drew1) | exact HB.out)) hb); clear HO245; clear HO248; clear HO251; clear HB; have HO245 := n0_; have HO248 := n1_; have HO251 := n2_; have HB := n3_; clear n0_ n1_ n2_ n3_; (try clear hb); (try clear hb2); (try clear hk); (try clear hi)) | (go_at_call 16; (with_reducible refine (spec_In.calls kj6 _ _ t243 a2 t253 _ ?side1 ?side2 A27.out).mono ?_); (case side1 => repeat (first | exact (Kd.R_reads' HO245.out).2.2 | (with_reducible refine Kd.C_alloc ?_ _) | (with_reducible refine Kd.C_drewN ?_ _) | (with_reducible refine Kd.C_drew ?_))); (case side2 => exact (Kd.R_reads' HO245.out).2.1); rintro e w49 ⟨rfl, hb⟩; have n0_ := Aside0.mk (Kd.R_below (by (with_reducible repeat (first | apply Kd.R_alloc | apply Kd.R_drewN | apply Kd.R_drew)); exact HO245.out) hb); have n1_ := Aside0.mk (Kd.R_below (by (with_reducible repeat (first | apply Kd.R_alloc | apply Kd.R_drewN | apply Kd.R_drew)); exact HO248.out) hb); have n2_ := Aside0.mk (Kd.R_below (by (with_reducible repeat (first | apply Kd.R_alloc | apply Kd.R_drewN | apply Kd.R_drew)); exact HO251.out) hb); have n3_ := Aside0.mk (below_step (by repeat (first | (with_reducible first | exact HB.out | apply below_alloc | apply pw_below_drewN | apply below_drew1) | exact HB.out)) hb); clear HO245; clear HO248; clear HO251; clear HB; have HO245 := n0_; have HO248 := n1_; have HO251 := n2_; have HB := n3_; clear n0_ n1_ n2_ n3_; (try clear hb); (try clear hb2); (try clear hk); (try clear hi)) | (go_at_call 16; (with_reducible refine (spec_In.calls kj6 _ _ l0 a2 false _ ?side1 ?side2 A28.out).mono ?_); (case side1 => repeat (first | exact (Kd.C_below HR0.out HB.out) | (with_reducible refine Kd.C_alloc ?_ _) | (with_reducible refine Kd.C_drewN ?_ _) | (with_reducible refine Kd.C_drew ?_))); (case side2 => exact HC0.out); rintro e w50 ⟨rfl, hb⟩; have n0_ := Aside0.mk (Kd.R_below (by (with_reducible repeat (first | apply Kd.R_alloc | apply Kd.R_drewN | apply Kd.R_drew)); exact HO245.out) hb); have n1_ := Aside0.mk (Kd.R_below (by (with_reducible repeat (first | apply Kd.R_alloc | apply Kd.R_drewN | apply Kd.R_drew)); exact HO248.out) hb); have n2_ := Aside0.mk (Kd.R_below (by (with_reducible repeat (first | apply Kd.R_alloc | apply Kd.R_drewN | apply Kd.R_drew)); exact HO251.out) hb); have n3_ := Aside0.mk (below_step (by repeat (first | (with_reducible first | exact HB.out | apply below_alloc | apply pw_below_drewN | apply below_drew1) | exact HB.out)) hb); clear HO245; clear HO248; clear HO251; clear HB; have HO245 := n0_; have HO248 := n1_; have HO251 := n2_; have HB := n3_; clear n0_ n1_ n2_ n3_; (try clear hb); (try clear hb2); (try clear hk); (try clear hi)) | (go_at_call 16; (with_reducible refine (spec_In.calls kj6 _ _ l1 a2 t255 _ ?side1 ?side2 A40.out).mono ?_); (case side1 => repeat (first | exact (Kd.C_below HR1.out HB.out) | (with_reducible refine Kd.C_alloc ?_ _) | (with_reducible refine Kd.C_drewN ?_ _) | (with_reducible refine Kd.C_drew ?_))); (case side2 => exact HC1.out); rintro e w51 ⟨rfl, hb⟩; have n0_ := Aside0.mk (Kd.R_below (by (with_reducible repeat (first | apply Kd.R_alloc | apply Kd.R_drewN | apply Kd.R_drew)); exact HO245.out) hb); have n1_ := Aside0.mk (Kd.R_below (by (with_reducible repeat (first | apply Kd.R_alloc | apply Kd.R_drewN | apply Kd.R_drew)); exact HO248.out) hb); have n2_ := Aside0.mk (Kd.R_below (by (with_reducible repeat (first | apply Kd.R_alloc | apply Kd.R_drewN | apply Kd.R_drew)); exact HO251.out) hb); have n3_ := Aside0.mk (below_step (by repeat (first | (with_reducible first | exact HB.out | apply below_alloc | apply pw_below_drewN | apply below_drew1) | exact HB.out)) hb); clear HO245; clear HO248; clear HO251; clear HB; have HO245 := n0_; have HO248 := n1_; have HO251 := n2_; have HB := n3_; clear n0_ n1_ n2_ n3_; (try clear hb); (try clear hb2); (try clear hk); (try clear hi)))
                    go_ret
                    exact ⟨by first | rfl | (simp [errW_none, errW_some] <;> rfl) | (simp [*, errW_none, errW_some] <;> rfl), by repeat (first | (with_reducible first | exact HB.out | apply below_alloc | apply pw_below_drewN | apply below_drew1) | exact HB.out)⟩
                · replace c26 := Bool.eq_false_iff.mpr c26
                  subst c26
                  have H1 : (some false) = some r := by rw [if_neg (show ¬ (false = true) by decide)] at H; exact H
                  clear H
                  have H := H1
                  clear H1
                  obtain rfl := Option.some.inj H
                  go_wp2_with (first | ((with_reducible refine gate_callee (f := 15) rfl ?_); refine goesL_ (some 42) rfl rfl Try.func15 (by kernel_rfl) rfl #[.slice A0 l0.length c0, .slice A1 l1.length c1] rfl (by (try simp only [List.map_toArray, List.map_cons, List.map_nil]); first | done | rfl | (simp only [List.length_drop, List.length_take]; rfl)) ?_; (with_reducible refine (impl_MergeRanges.calls kj6 _ _ l0 _ _ l1 t243 _ ?side1 ?side2 ?side3 ?side4 A22.out).mono ?_); (case side1 => repeat (first | exact (Kd.C_below HR0.out HB.out) | (with_reducible refine Kd.C_alloc ?_ _) | (with_reducible refine Kd.C_drewN ?_ _) | (with_reducible refine Kd.C_drew ?_))); (case side2 => exact HC0.out); (case side3 => repeat (first | exact (Kd.C_below HR1.out HB.out) | (with_reducible refine Kd.C_alloc ?_ _) | (with_reducible refine Kd.C_drewN ?_ _) | (with_reducible refine Kd.C_drew ?_))); (case side4 => exact HC1.out); rintro e w52 ⟨v244, rfl, ho0, hb⟩; refine ⟨_, rfl, ?_⟩; have n0_ := Aside0.mk (Kd.R_lower ho0 (below_size (by repeat (first | (with_reducible first | exact HB.out | apply below_alloc | apply pw_below_drewN | apply below_drew1) | exact HB.out)))); have n1_ := Aside0.mk (below_step (by repeat (first | (with_reducible first | exact HB.out | apply below_alloc | apply pw_below_drewN | apply below_drew1) | exact HB.out)) hb); clear HB; have HO245 := n0_; have HB := n1_; clear n0_ n1_; (try clear hb); (try clear hb2); (try clear hk); (try clear hi); (try clear ho0)) | ((with_reducible refine gate_dst (N := 44) rfl ?_); (try (refine gate_guard (by rfl) ?_; dsimp only)); refine Kd.R_lit k24 _ 24 ?hg (N := 44) ?hd (xs := ([(⟨1, 2⟩ : S24)] : List (S24))) (inner := [.int .i64 1, .int .i64 2]) (ok := fun _ => True) (okp := fun _ => True) ?hr ?hp (fun _ hk => hk) trivial (Below.refl _ _) (Nat.le_refl _) (by simp) ?_; (case hd => rfl); (case hg => rfl); (case hr => first | (go_simp; done) | (go_simp; rfl)); (case hp => exact (Reps.c2 (show Kd.M k24 _ _ _ (⟨1, 2⟩ : S24) [.int .i64 1, .int .i64 2] from (k24_mkM _ _ _ (⟨1, 2⟩ : S24) )) (Reps.none _ _))); intro v247 w53 ho54 hb hg_ hnew_; clear hg_ hnew_; (first | rw [← Ny246.out] at ho54 | (simp only [Int.reduceToNat] at ho54; rw [← Ny246.out] at ho54)); have n0_ := Aside0.mk (Kd.R_elder' (by (with_reducible repeat (first | apply Kd.R_alloc | apply Kd.R_drewN | apply Kd.R_drew)); exact HO245.out) (Kd.R_base ho54) hb); have n1_ := Aside0.mk (Kd.R_lower (Kd.R_new' ho54 (Kd.R_lt (by (with_reducible repeat (first | apply Kd.R_alloc | apply Kd.R_drewN | apply Kd.R_drew)); exact HO245.out))) (below_size (by repeat (first | (with_reducible first | exact HB.out | apply below_alloc | apply pw_below_drewN | apply below_drew1) | exact HB.out)))); have n2_ := Aside0.mk (below_step (by repeat (first | (with_reducible first | exact HB.out | apply below_alloc | apply pw_below_drewN | apply below_drew1) | exact HB.out)) hb); clear HO245; clear HB; have HO245 := n0_; have HO248 := n1_; have HB := n2_; clear n0_ n1_ n2_; clear hb ho54; obtain ⟨Ao55, co55, eo55⟩ := Kd.R_slice HO248.out; subst eo55) | ((with_reducible refine gate_callee (f := 15) rfl ?_); refine goesL_ (some 45) rfl rfl Try.func15 (by kernel_rfl) rfl #[.slice Ao55 y246.length co55, .slice none 0 0] rfl (by (try simp only [List.map_toArray, List.map_cons, List.map_nil]); first | done | rfl | (simp only [List.length_drop, List.length_take]; rfl)) ?_; (refine (impl_MergeRanges.calls kj6 _ _ y246 _ _ ([] : List (S24)) t249 _ ?side1 ?side2 ?side3 ?side4 A23.out).mono ?_); (case side1 => repeat (first | exact (Kd.R_reads' HO248.out).2.2 | (with_reducible refine Kd.C_alloc ?_ _) | (with_reducible refine Kd.C_drewN ?_ _) | (with_reducible refine Kd.C_drew ?_))); (case side2 => exact (Kd.R_reads' HO248.out).2.1); (case side3 => exact Kd.C_nil _ _); (case side4 => exact Nat.le_refl _); rintro e w56 ⟨v250, rfl, ho0, hb⟩; refine ⟨_, rfl, ?_⟩; have n0_ := Aside0.mk (Kd.R_elder' (by (with_reducible repeat (first | apply Kd.R_alloc | apply Kd.R_drewN | apply Kd.R_drew)); exact HO245.out) (Kd.R_base ho0) hb); have n1_ := Aside0.mk (Kd.R_elder' (by (with_reducible repeat (first | apply Kd.R_alloc | apply Kd.R_drewN | apply Kd.R_drew)); exact HO248.out) (Kd.R_base ho0) hb); have n2_ := Aside0.mk (Kd.R_lower (Kd.R_new' (Kd.R_new' ho0 (Kd.R_lt (by (with_reducible repeat (first | apply Kd.R_alloc | apply Kd.R_drewN | apply Kd.R_drew)); exact HO245.out))) (Kd.R_lt (by (with_reducible repeat (first | apply Kd.R_alloc | apply Kd.R_drewN | apply Kd.R_drew)); exact HO248.out))) (below_size (by repeat (first | (with_reducible first | exact HB.out | apply below_alloc | apply pw_below_drewN | apply below_drew1) | exact HB.out)))); have n3_ := Aside0.mk (below_step (by repeat (first | (with_reducible first | exact HB.out | apply below_alloc | apply pw_below_drewN | apply below_drew1) | exact HB.out)) hb); clear HO245; clear HO248; clear HB; have HO245 := n0_; have HO248 := n1_; have HO251 := n2_; have HB := n3_; clear n0_ n1_ n2_ n3_; (try clear hb); (try clear hb2); (try clear hk); (try clear hi); (try clear ho0); obtain ⟨Ao57, co57, eo57⟩ := Kd.R_slice HO251.out; subst eo57; obtain ⟨Ao58, co58, eo58⟩ := Kd.R_slice HO245.out; subst eo58) | ((with_reducible refine gate_callee (f := 13) rfl ?_); refine goesL_ (some 49) rfl rfl Try.func13 (by kernel_rfl) rfl #[.slice Ao58 t243.length co58] rfl (by (try simp only [List.map_toArray, List.map_cons, List.map_nil]); first | done | rfl | (simp only [List.length_drop, List.length_take]; rfl)) ?_; (with_reducible refine (spec_AreApart.calls kj6 _ _ t243 false _ ?side1 ?side2 A25.out).mono ?_); (case side1 => repeat (first | exact (Kd.R_reads' HO245.out).2.2 | (with_reducible refine Kd.C_alloc ?_ _) | (with_reducible refine Kd.C_drewN ?_ _) | (with_reducible refine Kd.C_drew ?_))); (case side2 => exact (Kd.R_reads' HO245.out).2.1); rintro e w59 ⟨rfl, hb⟩; refine ⟨_, rfl, ?_⟩; have n0_ := Aside0.mk (Kd.R_below (by (with_reducible repeat (first | apply Kd.R_alloc | apply Kd.R_drewN | apply Kd.R_drew)); exact HO245.out) hb); have n1_ := Aside0.mk (Kd.R_below (by (with_reducible repeat (first | apply Kd.R_alloc | apply Kd.R_drewN | apply Kd.R_drew)); exact HO248.out) hb); have n2_ := Aside0.mk (Kd.R_below (by (with_reducible repeat (first | apply Kd.R_alloc | apply Kd.R_drewN | apply Kd.R_drew)); exact HO251.out) hb); have n3_ := Aside0.mk (below_step (by repeat (first | (with_reducible first | exact HB.out | apply below_alloc | apply pw_below_drewN | apply below_drew1) | exact HB.out)) hb); clear HO245; clear HO248; clear HO251; clear HB; have HO245 := n0_; have HO248 := n1_; have HO251 := n2_; have HB := n3_; clear n0_ n1_ n2_ n3_; (try clear hb); (try clear hb2); (try clear hk); (try clear hi)))
                  go_ret
                  exact ⟨by first | rfl | (simp [errW_none, errW_some] <;> rfl) | (simp [*, errW_none, errW_some] <;> rfl), by repeat (first | (with_reducible first | exact HB.out | apply below_alloc | apply pw_below_drewN | apply below_drew1) | exact HB.out)⟩
              · rw [if_neg c24] at H
                have c24b0 : ((t249.length : Int) == 1) = false := beq_eq_false_iff_ne.mpr c24
                have c24b1 : ((t249.length : Int) != 1) = true := bne_iff_ne.mpr c24
                obtain rfl := Option.some.inj H
                go_wp2_with (first | ((with_reducible refine gate_callee (f := 15) rfl ?_); refine goesL_ (some 42) rfl rfl Try.func15 (by kernel_rfl) rfl #[.slice A0 l0.length c0, .slice A1 l1.length c1] rfl (by (try simp only [List.map_toArray, List.map_cons, List.map_nil]); first | done | rfl | (simp only [List.length_drop, List.length_take]; rfl)) ?_; (with_reducible refine (impl_MergeRanges.calls kj6 _ _ l0 _ _ l1 t243 _ ?side1 ?side2 ?side3 ?side4 A22.out).mono ?_); (case side1 => repeat (first | exact (Kd.C_below HR0.out HB.out) | (with_reducible refine Kd.C_alloc ?_ _) | (with_reducible refine Kd.C_drewN ?_ _) | (with_reducible refine Kd.C_drew ?_))); (case side2 => exact HC0.out); (case side3 => repeat (first | exact (Kd.C_below HR1.out HB.out) | (with_reducible refine Kd.C_alloc ?_ _) | (with_reducible refine Kd.C_drewN ?_ _) | (with_reducible refine Kd.C_drew ?_))); (case side4 => exact HC1.out); rintro e w60 ⟨v244, rfl, ho0, hb⟩; refine ⟨_, rfl, ?_⟩; have n0_ := Aside0.mk (Kd.R_lower ho0 (below_size (by repeat (first | (with_reducible first | exact HB.out | apply below_alloc | apply pw_below_drewN | apply below_drew1) | exact HB.out)))); have n1_ := Aside0.mk (below_step (by repeat (first | (with_reducible first | exact HB.out | apply below_alloc | apply pw_below_drewN | apply below_drew1) | exact HB.out)) hb); clear HB; have HO245 := n0_; have HB := n1_; clear n0_ n1_; (try clear hb); (try clear hb2); (try clear hk); (try clear hi); (try clear ho0)) | ((with_reducible refine gate_dst (N := 44) rfl ?_); (try (refine gate_guard (by rfl) ?_; dsimp only)); refine Kd.R_lit k24 _ 24 ?hg (N := 44) ?hd (xs := ([(⟨1, 2⟩ : S24)] : List (S24))) (inner := [.int .i64 1, .int .i64 2]) (ok := fun _ => True) (okp := fun _ => True) ?hr ?hp (fun _ hk => hk) trivial (Below.refl _ _) (Nat.le_refl _) (by simp) ?_; (case hd => rfl); (case hg => rfl); (case hr => first | (go_simp; done) | (go_simp; rfl)); (case hp => exact (Reps.c2 (show Kd.M k24 _ _ _ (⟨1, 2⟩ : S24) [.int .i64 1, .int .i64 2] from (k24_mkM _ _ _ (⟨1, 2⟩ : S24) )) (Reps.none _ _))); intro v247 w61 ho62 hb hg_ hnew_; clear hg_ hnew_; (first | rw [← Ny246.out] at ho62 | (simp only [Int.reduceToNat] at ho62; rw [← Ny246.out] at ho62)); have n0_ := Aside0.mk (Kd.R_elder' (by (with_reducible repeat (first | apply Kd.R_alloc | apply Kd.R_drewN | apply Kd.R_drew)); exact HO245.out) (Kd.R_base ho62) hb); have n1_ := Aside0.mk (Kd.R_lower (Kd.R_new' ho62 (Kd.R_lt (by (with_reducible repeat (first | apply Kd.R_alloc | apply Kd.R_drewN | apply Kd.R_drew)); exact HO245.out))) (below_size (by repeat (first | (with_reducible first | exact HB.out | apply below_alloc | apply pw_below_drewN | apply below_drew1) | exact HB.out)))); have n2_ := Aside0.mk (below_step (by repeat (first | (with_reducible first | exact HB.out | apply below_alloc | apply pw_below_drewN | apply below_drew1) | exact HB.out)) hb); clear HO245; clear HB; have HO245 := n0_; have HO248 := n1_; have HB := n2_; clear n0_ n1_ n2_; clear hb ho62; obtain ⟨Ao63, co63, eo63⟩ := Kd.R_slice HO248.out; subst eo63) | ((with_reducible refine gate_callee (f := 15) rfl ?_); refine goesL_ (some 45) rfl rfl Try.func15 (by kernel_rfl) rfl #[.slice Ao63 y246.length co63, .slice none 0 0] rfl (by (try simp only [List.map_toArray, List.map_cons, List.map_nil]); first | done | rfl | (simp only [List.length_drop, List.length_take]; rfl)) ?_; (refine (impl_MergeRanges.calls kj6 _ _ y246 _ _ ([] : List (S24)) t249 _ ?side1 ?side2 ?side3 ?side4 A23.out).mono ?_); (case side1 => repeat (first | exact (Kd.R_reads' HO248.out).2.2 | (with_reducible refine Kd.C_alloc ?_ _) | (with_reducible refine Kd.C_drewN ?_ _) | (with_reducible refine Kd.C_drew ?_))); (case side2 => exact (Kd.R_reads' HO248.out).2.1); (case side3 => exact Kd.C_nil _ _); (case side4 => exact Nat.le_refl _); rintro e w64 ⟨v250, rfl, ho0, hb⟩; refine ⟨_, rfl, ?_⟩; have n0_ := Aside0.mk (Kd.R_elder' (by (with_reducible repeat (first | apply Kd.R_alloc | apply Kd.R_drewN | apply Kd.R_drew)); exact HO245.out) (Kd.R_base ho0) hb); have n1_ := Aside0.mk (Kd.R_elder' (by (with_reducible repeat (first | apply Kd.R_alloc | apply Kd.R_drewN | apply Kd.R_drew)); exact HO248.out) (Kd.R_base ho0) hb); have n2_ := Aside0.mk (Kd.R_lower (Kd.R_new' (Kd.R_new' ho0 (Kd.R_lt (by (with_reducible repeat (first | apply Kd.R_alloc | apply Kd.R_drewN | apply Kd.R_drew)); exact HO245.out))) (Kd.R_lt (by (with_reducible repeat (first | apply Kd.R_alloc | apply Kd.R_drewN | apply Kd.R_drew)); exact HO248.out))) (below_size (by repeat (first | (with_reducible first | exact HB.out | apply below_alloc | apply pw_below_drewN | apply below_drew1) | exact HB.out)))); have n3_ := Aside0.mk (below_step (by repeat (first | (with_reducible first | exact HB.out | apply below_alloc | apply pw_below_drewN | apply below_drew1) | exact HB.out)) hb); clear HO245; clear HO248; clear HB; have HO245 := n0_; have HO248 := n1_; have HO251 := n2_; have HB := n3_; clear n0_ n1_ n2_ n3_; (try clear hb); (try clear hb2); (try clear hk); (try clear hi); (try clear ho0); obtain ⟨Ao65, co65, eo65⟩ := Kd.R_slice HO251.out; subst eo65))
                go_ret
                exact ⟨by first | rfl | (simp [errW_none, errW_some] <;> rfl) | (simp [*, errW_none, errW_some] <;> rfl), by repeat (first | (with_reducible first | exact HB.out | apply below_alloc | apply pw_below_drewN | apply below_drew1) | exact HB.out)⟩

/-- THE ONE PURE STATEMENT of laws_FnMergeRanges. -/
def laws_FnMergeRanges.Pure : Prop := ∀ (l0 : List (S24)) (l1 : List (S24)) (a2 : Int), (l0.length ≤ maxLen ∧ ∀ x_ ∈ l0, wf24 x_) → (l1.length ≤ maxLen ∧ ∀ x_ ∈ l1, wf24 x_) → ((Lit.int .i64 a2).wf = true) → ∃ k, laws_FnMergeRanges.f k l0 l1 a2 = some true

end Go.Proofs.Ytepealmdnaondaa.PAll
