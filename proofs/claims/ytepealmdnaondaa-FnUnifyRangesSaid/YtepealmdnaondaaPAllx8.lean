-- Printed by a program of this session (mkprint.py over the kit's print.py)
import Derived.Test.YtepealmdnaondaaPAllx0
import Derived.Test.YtepealmdnaondaaPAllx2
import Derived.Test.YtepealmdnaondaaPAllx4
import Derived.Test.YtepealmdnaondaaPAllx6
import Derived.Test.YtepealmdnaondaaGiven2
import Derived.Test.YtepealmdnaondaaExtra
namespace Go.Proofs.Ytepealmdnaondaa.PAll
open Go.RowKit Go.Proofs.YtepealmdnaondaaW.PrintWords Go.Proofs.YtepealmdnaondaaW.PrintLast Go.Proofs.YtepealmdnaondaaW.PrintMore
attribute [local go_sem] max2_int min2_int max_two min_two max_three min_three max_four min_four   -- for this text's walks alone
set_option linter.unusedVariables false
set_option linter.unusedSimpArgs false

/-! ### laws_FnUnifyRanges: function 6 -/
mutual
def laws_FnUnifyRanges.j0 : Nat → List (S24) → List (S24) → Bool → Option (Bool)
  | 0, _, _, _ => none
  | k + 1, x0, x1, x12 => if x12 = true then (some true) else (if (x0.length : Int) > 65536 then (laws_FnUnifyRanges.j1 k x0 x1 true) else (if (x1.length : Int) > 65536 then (laws_FnUnifyRanges.j1 k x0 x1 true) else ((spec_AreApart.f k x0).bind fun t256 => (if t256 = true then ((spec_AreApart.f k x1).bind fun t257 => (laws_FnUnifyRanges.j1 k x0 x1 (!t257))) else (laws_FnUnifyRanges.j1 k x0 x1 true)))))
def laws_FnUnifyRanges.j1 : Nat → List (S24) → List (S24) → Bool → Option (Bool)
  | 0, _, _, _ => none
  | k + 1, x0, x1, x30 => if x30 = true then (some true) else ((impl_UnifyRanges.f (([(⟨1, 2⟩ : S24)] : List (S24))) ([] : List (S24))).bind fun t261 => (if (t261.length : Int) = 1 then ((impl_UnifyRanges.f x0 x1).bind fun t264 => ((impl_MergeRanges.f k x0 x1).bind fun t267 => ((laws_sameRanges.f k t264 t267).bind fun t270 => (some t270)))) else (some false)))
end
def laws_FnUnifyRanges.f (k : Nat) (l0 : List (S24)) (l1 : List (S24)) : Option (Bool) := if (l0.length : Int) > 2147483647 then (laws_FnUnifyRanges.j0 k l0 l1 true) else (laws_FnUnifyRanges.j0 k l0 l1 (decide ((l1.length : Int) > 2147483647)))
theorem laws_FnUnifyRanges.mono_l : ∀ k, (∀ y0 y1 y2, LeO (laws_FnUnifyRanges.j0 k y0 y1 y2) (laws_FnUnifyRanges.j0 (k + 1) y0 y1 y2)) ∧ (∀ y0 y1 y2, LeO (laws_FnUnifyRanges.j1 k y0 y1 y2) (laws_FnUnifyRanges.j1 (k + 1) y0 y1 y2))
  | 0 => ⟨fun _ _ _ r h => by simp [laws_FnUnifyRanges.j0] at h, fun _ _ _ r h => by simp [laws_FnUnifyRanges.j1] at h⟩
  | k + 1 => by
    obtain ⟨ih0, ih1⟩ := laws_FnUnifyRanges.mono_l k
    refine ⟨?_, ?_⟩
    · intro y0 y1 y2
      unfold laws_FnUnifyRanges.j0
      repeat' first
      | (with_reducible exact ih0 _ _ _)
      | (with_reducible exact ih1 _ _ _)
      | (with_reducible exact impl_MergeRanges.mono _ _ _)
      | (with_reducible exact laws_sameRanges.mono _ _ _)
      | (with_reducible exact spec_AreApart.mono _ _)
      | (with_reducible exact LeO.refl _)
      | (with_reducible exact LeO.none _)
      | (with_reducible refine LeO.ite ?_ ?_)
      | (with_reducible refine LeO.bind ?_ (fun _ => ?_))
      | exact ih0 _ _ _
      | exact ih1 _ _ _
      | exact impl_MergeRanges.mono _ _ _
      | exact laws_sameRanges.mono _ _ _
      | exact spec_AreApart.mono _ _
      | exact LeO.none _
      | refine LeO.ite ?_ ?_
      | refine LeO.bind ?_ (fun _ => ?_)
    · intro y0 y1 y2
      unfold laws_FnUnifyRanges.j1
      repeat' first
      | (with_reducible exact ih0 _ _ _)
      | (with_reducible exact ih1 _ _ _)
      | (with_reducible exact impl_MergeRanges.mono _ _ _)
      | (with_reducible exact laws_sameRanges.mono _ _ _)
      | (with_reducible exact spec_AreApart.mono _ _)
      | (with_reducible exact LeO.refl _)
      | (with_reducible exact LeO.none _)
      | (with_reducible refine LeO.ite ?_ ?_)
      | (with_reducible refine LeO.bind ?_ (fun _ => ?_))
      | exact ih0 _ _ _
      | exact ih1 _ _ _
      | exact impl_MergeRanges.mono _ _ _
      | exact laws_sameRanges.mono _ _ _
      | exact spec_AreApart.mono _ _
      | exact LeO.none _
      | refine LeO.ite ?_ ?_
      | refine LeO.bind ?_ (fun _ => ?_)
theorem laws_FnUnifyRanges.mono : ∀ a0 a1 k, LeO (laws_FnUnifyRanges.f k a0 a1) (laws_FnUnifyRanges.f (k + 1) a0 a1) := by
  intro a0 a1 k
  obtain ⟨ih0, ih1⟩ := laws_FnUnifyRanges.mono_l k
  unfold laws_FnUnifyRanges.f
  repeat' first
      | (with_reducible exact ih0 _ _ _)
      | (with_reducible exact ih1 _ _ _)
      | (with_reducible exact impl_MergeRanges.mono _ _ _)
      | (with_reducible exact laws_sameRanges.mono _ _ _)
      | (with_reducible exact spec_AreApart.mono _ _)
      | (with_reducible exact LeO.refl _)
      | (with_reducible exact LeO.none _)
      | (with_reducible refine LeO.ite ?_ ?_)
      | (with_reducible refine LeO.bind ?_ (fun _ => ?_))
      | exact ih0 _ _ _
      | exact ih1 _ _ _
      | exact impl_MergeRanges.mono _ _ _
      | exact laws_sameRanges.mono _ _ _
      | exact spec_AreApart.mono _ _
      | exact LeO.none _
      | refine LeO.ite ?_ ?_
      | refine LeO.bind ?_ (fun _ => ?_)
set_option maxHeartbeats 8000000 in
set_option maxRecDepth 100000 in
theorem laws_FnUnifyRanges.calls (k : Nat) (A0 : Option Addr) (c0 : Nat) (l0 : List (S24)) (A1 : Option Addr) (c1 : Nat) (l1 : List (S24)) (r : Bool) (w : World) (hr0 : Kd.C k24 w A0 l0.length l0) (hc0 : l0.length ≤ c0) (hr1 : Kd.C k24 w A1 l1.length l1) (hc1 : l1.length ≤ c1) (h : laws_FnUnifyRanges.f k l0 l1 = some r) :
    Calls Try.prog 6 #[.slice A0 l0.length c0, .slice A1 l1.length c1] w fun e w' => e = .returned (.bool r) ∧ Below w.heap.size w w' := by
  have hu24 := Try.underlying24
  have HR0 := Aside0.mk hr0
  have HC0 := Aside0.mk hc0
  clear hr0 hc0
  have HR1 := Aside0.mk hr1
  have HC1 := Aside0.mk hc1
  clear hr1 hc1
  have HB := Aside0.mk (Below.refl w.heap.size w)
  have H : (if (l0.length : Int) > 2147483647 then (laws_FnUnifyRanges.j0 k l0 l1 true) else (laws_FnUnifyRanges.j0 k l0 l1 (decide ((l1.length : Int) > 2147483647)))) = some r := h
  clear h
  have HC3 := Aside0.mk H
  clear H
  go_enter Try.func6, Try.ntmps6
  go_upto_region 1 with (fail)
  go_cut [12] (fun v12 wc => ∃ (kq : Nat) (x12_2 : Bool), v12 = .bool x12_2 ∧ Aside0 (laws_FnUnifyRanges.j0 kq l0 l1 x12_2 = some r) ∧ Aside0 (kq ≤ k) ∧ Aside0 (Below w.heap.size w wc))
  case first =>
    have H := HC3.out
    clear HC3
    by_cases c4 : (l0.length : Int) > 2147483647
    · rw [if_pos c4] at H
      have c4b0 : decide (2147483647 < (l0.length : Int)) = true := decide_eq_true c4
      have c4b1 : decide (2147483647 < l0.length) = true := decide_eq_true (by omega)
      clear c4
      (first | rw [c4b0] | (simp only [i64_w, i32_w]; rw [c4b0]) | skip)
      have H' := Aside0.mk H
      clear H
      go_wp2
      go_meet
      case rel => exact ⟨_, (true), (by first | rfl | (simp; done) | (simp [*]; done)), H', ⟨by first | omega | exact Nat.le_refl _⟩, ⟨by repeat (first | (with_reducible first | exact HB.out | apply below_alloc | apply pw_below_drewN | apply below_drew1) | exact HB.out)⟩⟩
    · rw [if_neg c4] at H
      have c4b0 : decide (2147483647 < (l0.length : Int)) = false := decide_eq_false c4
      have c4b1 : decide (2147483647 < l0.length) = false := decide_eq_false (by omega)
      clear c4
      (first | rw [c4b0] | (simp only [i64_w, i32_w]; rw [c4b0]) | skip)
      have H' := Aside0.mk H
      clear H
      go_wp2
      go_meet
      case rel => exact ⟨_, (decide ((l1.length : Int) > 2147483647)), (by first | rfl | (simp; done) | (simp [*]; done)), H', ⟨by first | omega | exact Nat.le_refl _⟩, ⟨by repeat (first | (with_reducible first | exact HB.out | apply below_alloc | apply pw_below_drewN | apply below_drew1) | exact HB.out)⟩⟩
  case rest =>
    clear HC3
    try clear c1
    try clear p2
    try clear c4
    try clear c4b0
    try clear c4b1
    obtain ⟨kq, x12_2, rfl, HA, HJ2, HB⟩ := hcut
    cases kq with
    | zero => exact absurd HA.out (by simp [laws_FnUnifyRanges.j0])
    | succ kj2 =>
      have H := HA.out
      clear HA
      simp only [laws_FnUnifyRanges.j0] at H
      by_cases c5 : x12_2 = true
      · subst c5
        have H1 : (some true) = some r := by rw [if_pos rfl] at H; exact H
        clear H
        have H := H1
        clear H1
        obtain rfl := Option.some.inj H
        go_wp2
        go_ret
        exact ⟨by first | rfl | (simp [errW_none, errW_some] <;> rfl) | (simp [*, errW_none, errW_some] <;> rfl), by repeat (first | (with_reducible first | exact HB.out | apply below_alloc | apply pw_below_drewN | apply below_drew1) | exact HB.out)⟩
      · replace c5 := Bool.eq_false_iff.mpr c5
        subst c5
        have H1 : (if (l0.length : Int) > 65536 then (laws_FnUnifyRanges.j1 kj2 l0 l1 true) else (if (l1.length : Int) > 65536 then (laws_FnUnifyRanges.j1 kj2 l0 l1 true) else ((spec_AreApart.f kj2 l0).bind fun t256 => (if t256 = true then ((spec_AreApart.f kj2 l1).bind fun t257 => (laws_FnUnifyRanges.j1 kj2 l0 l1 (!t257))) else (laws_FnUnifyRanges.j1 kj2 l0 l1 true))))) = some r := by rw [if_neg (show ¬ (false = true) by decide)] at H; exact H
        clear H
        have H := H1
        clear H1
        have HC6 := Aside0.mk H
        clear H
        go_upto_region 3 with (fail)
        go_cut [30] (fun v30 wc => ∃ (kq : Nat) (x30_5 : Bool), v30 = .bool x30_5 ∧ Aside0 (laws_FnUnifyRanges.j1 kq l0 l1 x30_5 = some r) ∧ Aside0 (kq ≤ kj2) ∧ Aside0 (Below w.heap.size w wc))
        case first =>
          have H := HC6.out
          clear HC6
          by_cases c7 : (l0.length : Int) > 65536
          · rw [if_pos c7] at H
            have c7b0 : decide (65536 < (l0.length : Int)) = true := decide_eq_true c7
            have c7b1 : decide (65536 < l0.length) = true := decide_eq_true (by omega)
            clear c7
            (first | rw [c7b0] | (simp only [i64_w, i32_w]; rw [c7b0]) | skip)
            have H' := Aside0.mk H
            clear H
            go_wp2
            go_meet
            case rel => exact ⟨_, (true), (by first | rfl | (simp; done) | (simp [*]; done)), H', ⟨by have := HJ2.out; first | omega | exact Nat.le_refl _⟩, ⟨by repeat (first | (with_reducible first | exact HB.out | apply below_alloc | apply pw_below_drewN | apply below_drew1) | exact HB.out)⟩⟩
          · rw [if_neg c7] at H
            have c7b0 : decide (65536 < (l0.length : Int)) = false := decide_eq_false c7
            have c7b1 : decide (65536 < l0.length) = false := decide_eq_false (by omega)
            clear c7
            (first | rw [c7b0] | (simp only [i64_w, i32_w]; rw [c7b0]) | skip)
            by_cases c8 : (l1.length : Int) > 65536
            · rw [if_pos c8] at H
              have c8b0 : decide (65536 < (l1.length : Int)) = true := decide_eq_true c8
              have c8b1 : decide (65536 < l1.length) = true := decide_eq_true (by omega)
              clear c8
              have H' := Aside0.mk H
              clear H
              go_wp2
              go_meet
              case rel => exact ⟨_, (true), (by first | rfl | (simp; done) | (simp [*]; done)), H', ⟨by have := HJ2.out; first | omega | exact Nat.le_refl _⟩, ⟨by repeat (first | (with_reducible first | exact HB.out | apply below_alloc | apply pw_below_drewN | apply below_drew1) | exact HB.out)⟩⟩
            · rw [if_neg c8] at H
              have c8b0 : decide (65536 < (l1.length : Int)) = false := decide_eq_false c8
              have c8b1 : decide (65536 < l1.length) = false := decide_eq_false (by omega)
              clear c8
              replace H := Option.bind_eq_some_iff.mp H
              obtain ⟨t256, A90, H⟩ := H
              replace H : (if t256 = true then ((spec_AreApart.f kj2 l1).bind fun t257 => (laws_FnUnifyRanges.j1 kj2 l0 l1 (!t257))) else (laws_FnUnifyRanges.j1 kj2 l0 l1 true)) = some r := H
              have A9 := Aside0.mk A90
              clear A90
              by_cases c10 : t256 = true
              · subst c10
                have H1 : ((spec_AreApart.f kj2 l1).bind fun t257 => (laws_FnUnifyRanges.j1 kj2 l0 l1 (!t257))) = some r := by rw [if_pos rfl] at H; exact H
                clear H
                have H := H1
                clear H1
                replace H := Option.bind_eq_some_iff.mp H
                obtain ⟨t257, A110, H⟩ := H
                replace H : (laws_FnUnifyRanges.j1 kj2 l0 l1 (!t257)) = some r := H
                have A11 := Aside0.mk A110
                clear A110
                have H' := Aside0.mk H
                clear H
                go_wp2_with (first | (go_at_call 13; (with_reducible refine (spec_AreApart.calls kj2 _ _ l0 true _ ?side1 ?side2 A9.out).mono ?_); (case side1 => repeat (first | exact (Kd.C_below HR0.out HB.out) | (with_reducible refine Kd.C_alloc ?_ _) | (with_reducible refine Kd.C_drewN ?_ _) | (with_reducible refine Kd.C_drew ?_))); (case side2 => exact HC0.out); rintro e w12 ⟨rfl, hb⟩; have n0_ := Aside0.mk (below_step (by repeat (first | (with_reducible first | exact HB.out | apply below_alloc | apply pw_below_drewN | apply below_drew1) | exact HB.out)) hb); clear HB; have HB := n0_; clear n0_; (try clear hb); (try clear hb2); (try clear hk); (try clear hi)) | (go_at_call 13; (with_reducible refine (spec_AreApart.calls kj2 _ _ l1 t257 _ ?side1 ?side2 A11.out).mono ?_); (case side1 => repeat (first | exact (Kd.C_below HR1.out HB.out) | (with_reducible refine Kd.C_alloc ?_ _) | (with_reducible refine Kd.C_drewN ?_ _) | (with_reducible refine Kd.C_drew ?_))); (case side2 => exact HC1.out); rintro e w13 ⟨rfl, hb⟩; have n0_ := Aside0.mk (below_step (by repeat (first | (with_reducible first | exact HB.out | apply below_alloc | apply pw_below_drewN | apply below_drew1) | exact HB.out)) hb); clear HB; have HB := n0_; clear n0_; (try clear hb); (try clear hb2); (try clear hk); (try clear hi)))
                go_meet
                case rel => exact ⟨_, (!t257), (by first | rfl | (simp; done) | (simp [*]; done)), H', ⟨by have := HJ2.out; first | omega | exact Nat.le_refl _⟩, ⟨by repeat (first | (with_reducible first | exact HB.out | apply below_alloc | apply pw_below_drewN | apply below_drew1) | exact HB.out)⟩⟩
              · replace c10 := Bool.eq_false_iff.mpr c10
                subst c10
                have H1 : (laws_FnUnifyRanges.j1 kj2 l0 l1 true) = some r := by rw [if_neg (show ¬ (false = true) by decide)] at H; exact H
                clear H
                have H := H1
                clear H1
                have H' := Aside0.mk H
                clear H
                go_wp2_with (first | (go_at_call 13; (with_reducible refine (spec_AreApart.calls kj2 _ _ l0 false _ ?side1 ?side2 A9.out).mono ?_); (case side1 => repeat (first | exact (Kd.C_below HR0.out HB.out) | (with_reducible refine Kd.C_alloc ?_ _) | (with_reducible refine Kd.C_drewN ?_ _) | (with_reducible refine Kd.C_drew ?_))); (case side2 => exact HC0.out); rintro e w14 ⟨rfl, hb⟩; have n0_ := Aside0.mk (below_step (by repeat (first | (with_reducible first | exact HB.out | apply below_alloc | apply pw_below_drewN | apply below_drew1) | exact HB.out)) hb); clear HB; have HB := n0_; clear n0_; (try clear hb); (try clear hb2); (try clear hk); (try clear hi)))
                go_meet
                case rel => exact ⟨_, (true), (by first | rfl | (simp; done) | (simp [*]; done)), H', ⟨by have := HJ2.out; first | omega | exact Nat.le_refl _⟩, ⟨by repeat (first | (with_reducible first | exact HB.out | apply below_alloc | apply pw_below_drewN | apply below_drew1) | exact HB.out)⟩⟩
        case rest =>
          clear HC6
          try clear c1
          try clear p2
          try clear c4
          try clear c4b0
          try clear c4b1
          try clear c5
          try clear c6
          try clear c7
          try clear c7b0
          try clear c7b1
          try clear c8
          try clear c8b0
          try clear c8b1
          try clear c10
          try clear p2
          obtain ⟨kq, x30_5, rfl, HA, HJ5, HB⟩ := hcut
          cases kq with
          | zero => exact absurd HA.out (by simp [laws_FnUnifyRanges.j1])
          | succ kj5 =>
            have H := HA.out
            clear HA
            simp only [laws_FnUnifyRanges.j1] at H
            by_cases c15 : x30_5 = true
            · subst c15
              have H1 : (some true) = some r := by rw [if_pos rfl] at H; exact H
              clear H
              have H := H1
              clear H1
              obtain rfl := Option.some.inj H
              go_wp2
              go_ret
              exact ⟨by first | rfl | (simp [errW_none, errW_some] <;> rfl) | (simp [*, errW_none, errW_some] <;> rfl), by repeat (first | (with_reducible first | exact HB.out | apply below_alloc | apply pw_below_drewN | apply below_drew1) | exact HB.out)⟩
            · replace c15 := Bool.eq_false_iff.mpr c15
              subst c15
              have H1 : ((impl_UnifyRanges.f (([(⟨1, 2⟩ : S24)] : List (S24))) ([] : List (S24))).bind fun t261 => (if (t261.length : Int) = 1 then ((impl_UnifyRanges.f l0 l1).bind fun t264 => ((impl_MergeRanges.f kj5 l0 l1).bind fun t267 => ((laws_sameRanges.f kj5 t264 t267).bind fun t270 => (some t270)))) else (some false))) = some r := by rw [if_neg (show ¬ (false = true) by decide)] at H; exact H
              clear H
              have H := H1
              clear H1
              obtain ⟨y258, hy258⟩ : ∃ y_ : List (S24), y_ = (([(⟨1, 2⟩ : S24)] : List (S24))) := ⟨_, rfl⟩
              replace H : ((impl_UnifyRanges.f y258 ([] : List (S24))).bind fun t261 => (if (t261.length : Int) = 1 then ((impl_UnifyRanges.f l0 l1).bind fun t264 => ((impl_MergeRanges.f kj5 l0 l1).bind fun t267 => ((laws_sameRanges.f kj5 t264 t267).bind fun t270 => (some t270)))) else (some false))) = some r := by first | (rw [hy258]; with_reducible exact H) | (have H2_ := (Option.bind_some _ _).symm.trans H; rw [hy258]; with_reducible exact H2_) | (have H2_ := (Option.bind_some _ _).symm.trans H; with_reducible exact H2_) | with_reducible exact H | (rw [hy258]; exact H) | exact H
              have Ny258 := Aside0.mk hy258
              clear hy258
              replace H := Option.bind_eq_some_iff.mp H
              obtain ⟨t261, A160, H⟩ := H
              replace H : (if (t261.length : Int) = 1 then ((impl_UnifyRanges.f l0 l1).bind fun t264 => ((impl_MergeRanges.f kj5 l0 l1).bind fun t267 => ((laws_sameRanges.f kj5 t264 t267).bind fun t270 => (some t270)))) else (some false)) = some r := H
              have A16 := Aside0.mk A160
              clear A160
              by_cases c17 : (t261.length : Int) = 1
              · rw [if_pos c17] at H
                have c17b0 : ((t261.length : Int) == 1) = true := beq_iff_eq.mpr c17
                have c17b1 : ((t261.length : Int) != 1) = false := bne_eq_false_iff_eq.mpr c17
                clear c17
                replace H := Option.bind_eq_some_iff.mp H
                obtain ⟨t264, A180, H⟩ := H
                replace H : ((impl_MergeRanges.f kj5 l0 l1).bind fun t267 => ((laws_sameRanges.f kj5 t264 t267).bind fun t270 => (some t270))) = some r := H
                have A18 := Aside0.mk A180
                clear A180
                replace H := Option.bind_eq_some_iff.mp H
                obtain ⟨t267, A190, H⟩ := H
                replace H : ((laws_sameRanges.f kj5 t264 t267).bind fun t270 => (some t270)) = some r := H
                have A19 := Aside0.mk A190
                clear A190
                replace H := Option.bind_eq_some_iff.mp H
                obtain ⟨t270, A200, H⟩ := H
                replace H : (some t270) = some r := H
                have A20 := Aside0.mk A200
                clear A200
                obtain rfl := Option.some.inj H
                go_wp2_with (first | ((with_reducible refine gate_dst (N := 32) rfl ?_); (try (refine gate_guard (by rfl) ?_; dsimp only)); refine Kd.R_lit k24 _ 24 ?hg (N := 32) ?hd (xs := ([(⟨1, 2⟩ : S24)] : List (S24))) (inner := [.int .i64 1, .int .i64 2]) (ok := fun _ => True) (okp := fun _ => True) ?hr ?hp (fun _ hk => hk) trivial (Below.refl _ _) (Nat.le_refl _) (by simp) ?_; (case hd => rfl); (case hg => rfl); (case hr => first | (go_simp; done) | (go_simp; rfl)); (case hp => exact (Reps.c2 (show Kd.M k24 _ _ _ (⟨1, 2⟩ : S24) [.int .i64 1, .int .i64 2] from (k24_mkM _ _ _ (⟨1, 2⟩ : S24) )) (Reps.none _ _))); intro v259 w21 ho22 hb hg_ hnew_; clear hg_ hnew_; (first | rw [← Ny258.out] at ho22 | (simp only [Int.reduceToNat] at ho22; rw [← Ny258.out] at ho22)); have n0_ := Aside0.mk (Kd.R_lower ho22 (below_size (by repeat (first | (with_reducible first | exact HB.out | apply below_alloc | apply pw_below_drewN | apply below_drew1) | exact HB.out)))); have n1_ := Aside0.mk (below_step (by repeat (first | (with_reducible first | exact HB.out | apply below_alloc | apply pw_below_drewN | apply below_drew1) | exact HB.out)) hb); clear HB; have HO260 := n0_; have HB := n1_; clear n0_ n1_; clear hb ho22; obtain ⟨Ao23, co23, eo23⟩ := Kd.R_slice HO260.out; subst eo23) | ((with_reducible refine gate_callee (f := 17) rfl ?_); refine goesL_ (some 33) rfl rfl Try.func17 (by kernel_rfl) rfl #[.slice Ao23 y258.length co23, .slice none 0 0] rfl (by (try simp only [List.map_toArray, List.map_cons, List.map_nil]); first | done | rfl | (simp only [List.length_drop, List.length_take]; rfl)) ?_; (refine (impl_UnifyRanges.calls _ _ y258 _ _ ([] : List (S24)) t261 _ ?side1 ?side2 ?side3 ?side4 A16.out).mono ?_); (case side1 => repeat (first | exact (Kd.R_reads' HO260.out).2.2 | (with_reducible refine Kd.C_alloc ?_ _) | (with_reducible refine Kd.C_drewN ?_ _) | (with_reducible refine Kd.C_drew ?_))); (case side2 => exact (Kd.R_reads' HO260.out).2.1); (case side3 => exact Kd.C_nil _ _); (case side4 => exact Nat.le_refl _); rintro e w24 ⟨v262, rfl, ho0, hb⟩; refine ⟨_, rfl, ?_⟩; have n0_ := Aside0.mk (Kd.R_elder' (by (with_reducible repeat (first | apply Kd.R_alloc | apply Kd.R_drewN | apply Kd.R_drew)); exact HO260.out) (Kd.R_base ho0) hb); have n1_ := Aside0.mk (Kd.R_lower (Kd.R_new' ho0 (Kd.R_lt (by (with_reducible repeat (first | apply Kd.R_alloc | apply Kd.R_drewN | apply Kd.R_drew)); exact HO260.out))) (below_size (by repeat (first | (with_reducible first | exact HB.out | apply below_alloc | apply pw_below_drewN | apply below_drew1) | exact HB.out)))); have n2_ := Aside0.mk (below_step (by repeat (first | (with_reducible first | exact HB.out | apply below_alloc | apply pw_below_drewN | apply below_drew1) | exact HB.out)) hb); clear HO260; clear HB; have HO260 := n0_; have HO263 := n1_; have HB := n2_; clear n0_ n1_ n2_; (try clear hb); (try clear hb2); (try clear hk); (try clear hi); (try clear ho0); obtain ⟨Ao25, co25, eo25⟩ := Kd.R_slice HO263.out; subst eo25) | ((with_reducible refine gate_callee (f := 17) rfl ?_); refine goesL_ (some 38) rfl rfl Try.func17 (by kernel_rfl) rfl #[.slice A0 l0.length c0, .slice A1 l1.length c1] rfl (by (try simp only [List.map_toArray, List.map_cons, List.map_nil]); first | done | rfl | (simp only [List.length_drop, List.length_take]; rfl)) ?_; (with_reducible refine (impl_UnifyRanges.calls _ _ l0 _ _ l1 t264 _ ?side1 ?side2 ?side3 ?side4 A18.out).mono ?_); (case side1 => repeat (first | exact (Kd.C_below HR0.out HB.out) | (with_reducible refine Kd.C_alloc ?_ _) | (with_reducible refine Kd.C_drewN ?_ _) | (with_reducible refine Kd.C_drew ?_))); (case side2 => exact HC0.out); (case side3 => repeat (first | exact (Kd.C_below HR1.out HB.out) | (with_reducible refine Kd.C_alloc ?_ _) | (with_reducible refine Kd.C_drewN ?_ _) | (with_reducible refine Kd.C_drew ?_))); (case side4 => exact HC1.out); rintro e w26 ⟨v265, rfl, ho0, hb⟩; refine ⟨_, rfl, ?_⟩; have n0_ := Aside0.mk (Kd.R_elder' (by (with_reducible repeat (first | apply Kd.R_alloc | apply Kd.R_drewN | apply Kd.R_drew)); exact HO260.out) (Kd.R_base ho0) hb); have n1_ := Aside0.mk (Kd.R_elder' (by (with_reducible repeat (first | apply Kd.R_alloc | apply Kd.R_drewN | apply Kd.R_drew)); exact HO263.out) (Kd.R_base ho0) hb); have n2_ := Aside0.mk (Kd.R_lower (Kd.R_new' (Kd.R_new' ho0 (Kd.R_lt (by (with_reducible repeat (first | apply Kd.R_alloc | apply Kd.R_drewN | apply Kd.R_drew)); exact HO260.out))) (Kd.R_lt (by (with_reducible repeat (first | apply Kd.R_alloc | apply Kd.R_drewN | apply Kd.R_drew)); exact HO263.out))) (below_size (by repeat (first | (with_reducible first | exact HB.out | apply below_alloc | apply pw_below_drewN | apply below_drew1) | exact HB.out)))); have n3_ := Aside0.mk (below_step (by repeat (first | (with_reducible first | exact HB.out | apply below_alloc | apply pw_below_drewN | apply below_drew1) | exact HB.out)) hb); clear HO260; clear HO263; clear HB; have HO260 := n0_; have HO263 := n1_; have HO266 := n2_; have HB := n3_; clear n0_ n1_ n2_ n3_; (try clear hb); (try clear hb2); (try clear hk); (try clear hi); (try clear ho0)) | ((with_reducible refine gate_callee (f := 15) rfl ?_); refine goesL_ (some 41) rfl rfl Try.func15 (by kernel_rfl) rfl #[.slice A0 l0.length c0, .slice A1 l1.length c1] rfl (by (try simp only [List.map_toArray, List.map_cons, List.map_nil]); first | done | rfl | (simp only [List.length_drop, List.length_take]; rfl)) ?_; (with_reducible refine (impl_MergeRanges.calls kj5 _ _ l0 _ _ l1 t267 _ ?side1 ?side2 ?side3 ?side4 A19.out).mono ?_); (case side1 => repeat (first | exact (Kd.C_below HR0.out HB.out) | (with_reducible refine Kd.C_alloc ?_ _) | (with_reducible refine Kd.C_drewN ?_ _) | (with_reducible refine Kd.C_drew ?_))); (case side2 => exact HC0.out); (case side3 => repeat (first | exact (Kd.C_below HR1.out HB.out) | (with_reducible refine Kd.C_alloc ?_ _) | (with_reducible refine Kd.C_drewN ?_ _) | (with_reducible refine Kd.C_drew ?_))); (case side4 => exact HC1.out); rintro e w27 ⟨v268, rfl, ho0, hb⟩; refine ⟨_, rfl, ?_⟩; have n0_ := Aside0.mk (Kd.R_elder' (by (with_reducible repeat (first | apply Kd.R_alloc | apply Kd.R_drewN | apply Kd.R_drew)); exact HO260.out) (Kd.R_base ho0) hb); have n1_ := Aside0.mk (Kd.R_elder' (by (with_reducible repeat (first | apply Kd.R_alloc | apply Kd.R_drewN | apply Kd.R_drew)); exact HO263.out) (Kd.R_base ho0) hb); have n2_ := Aside0.mk (Kd.R_elder' (by (with_reducible repeat (first | apply Kd.R_alloc | apply Kd.R_drewN | apply Kd.R_drew)); exact HO266.out) (Kd.R_base ho0) hb); have n3_ := Aside0.mk (Kd.R_lower (Kd.R_new' (Kd.R_new' (Kd.R_new' ho0 (Kd.R_lt (by (with_reducible repeat (first | apply Kd.R_alloc | apply Kd.R_drewN | apply Kd.R_drew)); exact HO260.out))) (Kd.R_lt (by (with_reducible repeat (first | apply Kd.R_alloc | apply Kd.R_drewN | apply Kd.R_drew)); exact HO263.out))) (Kd.R_lt (by (with_reducible repeat (first | apply Kd.R_alloc | apply Kd.R_drewN | apply Kd.R_drew)); exact HO266.out))) (below_size (by repeat (first | (with_reducible first | exact HB.out | apply below_alloc | apply pw_below_drewN | apply below_drew1) | exact HB.out)))); have n4_ := Aside0.mk (below_step (by repeat (first | (with_reducible first | exact HB.out | apply below_alloc | apply pw_below_drewN | apply below_drew1) | exact HB.out)) hb); clear HO260; clear HO263; clear HO266; clear HB; have HO260 := n0_; have HO263 := n1_; have HO266 := n2_; have HO269 := n3_; have HB := n4_; clear n0_ n1_ n2_ n3_ n4_; (try clear hb); (try clear hb2); (try clear hk); (try clear hi); (try clear ho0); obtain ⟨Ao28, co28, eo28⟩ := Kd.R_slice HO266.out; subst eo28; obtain ⟨Ao29, co29, eo29⟩ := Kd.R_slice HO269.out; subst eo29) | ((with_reducible refine gate_callee (f := 12) rfl ?_); refine goesL_ (some 42) rfl rfl Try.func12 (by kernel_rfl) rfl #[.slice Ao28 t264.length co28, .slice Ao29 t267.length co29] rfl (by (try simp only [List.map_toArray, List.map_cons, List.map_nil]); first | done | rfl | (simp only [List.length_drop, List.length_take]; rfl)) ?_; (with_reducible refine (laws_sameRanges.calls kj5 _ _ t264 _ _ t267 t270 _ ?side1 ?side2 ?side3 ?side4 A20.out).mono ?_); (case side1 => repeat (first | exact (Kd.R_reads' HO266.out).2.2 | (with_reducible refine Kd.C_alloc ?_ _) | (with_reducible refine Kd.C_drewN ?_ _) | (with_reducible refine Kd.C_drew ?_))); (case side2 => exact (Kd.R_reads' HO266.out).2.1); (case side3 => repeat (first | exact (Kd.R_reads' HO269.out).2.2 | (with_reducible refine Kd.C_alloc ?_ _) | (with_reducible refine Kd.C_drewN ?_ _) | (with_reducible refine Kd.C_drew ?_))); (case side4 => exact (Kd.R_reads' HO269.out).2.1); rintro e w' ⟨rfl, ⟨nd, rfl⟩⟩; refine ⟨_, rfl, ?_⟩))
                go_ret
                exact ⟨by first | rfl | (simp [errW_none, errW_some] <;> rfl) | (simp [*, errW_none, errW_some] <;> rfl), by repeat (first | (with_reducible first | exact HB.out | apply below_alloc | apply pw_below_drewN | apply below_drew1) | exact HB.out)⟩
              · rw [if_neg c17] at H
                have c17b0 : ((t261.length : Int) == 1) = false := beq_eq_false_iff_ne.mpr c17
                have c17b1 : ((t261.length : Int) != 1) = true := bne_iff_ne.mpr c17
                obtain rfl := Option.some.inj H
                go_wp2_with (first | ((with_reducible refine gate_dst (N := 32) rfl ?_); (try (refine gate_guard (by rfl) ?_; dsimp only)); refine Kd.R_lit k24 _ 24 ?hg (N := 32) ?hd (xs := ([(⟨1, 2⟩ : S24)] : List (S24))) (inner := [.int .i64 1, .int .i64 2]) (ok := fun _ => True) (okp := fun _ => True) ?hr ?hp (fun _ hk => hk) trivial (Below.refl _ _) (Nat.le_refl _) (by simp) ?_; (case hd => rfl); (case hg => rfl); (case hr => first | (go_simp; done) | (go_simp; rfl)); (case hp => exact (Reps.c2 (show Kd.M k24 _ _ _ (⟨1, 2⟩ : S24) [.int .i64 1, .int .i64 2] from (k24_mkM _ _ _ (⟨1, 2⟩ : S24) )) (Reps.none _ _))); intro v259 w30 ho31 hb hg_ hnew_; clear hg_ hnew_; (first | rw [← Ny258.out] at ho31 | (simp only [Int.reduceToNat] at ho31; rw [← Ny258.out] at ho31)); have n0_ := Aside0.mk (Kd.R_lower ho31 (below_size (by repeat (first | (with_reducible first | exact HB.out | apply below_alloc | apply pw_below_drewN | apply below_drew1) | exact HB.out)))); have n1_ := Aside0.mk (below_step (by repeat (first | (with_reducible first | exact HB.out | apply below_alloc | apply pw_below_drewN | apply below_drew1) | exact HB.out)) hb); clear HB; have HO260 := n0_; have HB := n1_; clear n0_ n1_; clear hb ho31; obtain ⟨Ao32, co32, eo32⟩ := Kd.R_slice HO260.out; subst eo32) | ((with_reducible refine gate_callee (f := 17) rfl ?_); refine goesL_ (some 33) rfl rfl Try.func17 (by kernel_rfl) rfl #[.slice Ao32 y258.length co32, .slice none 0 0] rfl (by (try simp only [List.map_toArray, List.map_cons, List.map_nil]); first | done | rfl | (simp only [List.length_drop, List.length_take]; rfl)) ?_; (refine (impl_UnifyRanges.calls _ _ y258 _ _ ([] : List (S24)) t261 _ ?side1 ?side2 ?side3 ?side4 A16.out).mono ?_); (case side1 => repeat (first | exact (Kd.R_reads' HO260.out).2.2 | (with_reducible refine Kd.C_alloc ?_ _) | (with_reducible refine Kd.C_drewN ?_ _) | (with_reducible refine Kd.C_drew ?_))); (case side2 => exact (Kd.R_reads' HO260.out).2.1); (case side3 => exact Kd.C_nil _ _); (case side4 => exact Nat.le_refl _); rintro e w33 ⟨v262, rfl, ho0, hb⟩; refine ⟨_, rfl, ?_⟩; have n0_ := Aside0.mk (Kd.R_elder' (by (with_reducible repeat (first | apply Kd.R_alloc | apply Kd.R_drewN | apply Kd.R_drew)); exact HO260.out) (Kd.R_base ho0) hb); have n1_ := Aside0.mk (Kd.R_lower (Kd.R_new' ho0 (Kd.R_lt (by (with_reducible repeat (first | apply Kd.R_alloc | apply Kd.R_drewN | apply Kd.R_drew)); exact HO260.out))) (below_size (by repeat (first | (with_reducible first | exact HB.out | apply below_alloc | apply pw_below_drewN | apply below_drew1) | exact HB.out)))); have n2_ := Aside0.mk (below_step (by repeat (first | (with_reducible first | exact HB.out | apply below_alloc | apply pw_below_drewN | apply below_drew1) | exact HB.out)) hb); clear HO260; clear HB; have HO260 := n0_; have HO263 := n1_; have HB := n2_; clear n0_ n1_ n2_; (try clear hb); (try clear hb2); (try clear hk); (try clear hi); (try clear ho0); obtain ⟨Ao34, co34, eo34⟩ := Kd.R_slice HO263.out; subst eo34))
                go_ret
                exact ⟨by first | rfl | (simp [errW_none, errW_some] <;> rfl) | (simp [*, errW_none, errW_some] <;> rfl), by repeat (first | (with_reducible first | exact HB.out | apply below_alloc | apply pw_below_drewN | apply below_drew1) | exact HB.out)⟩

/-- THE ONE PURE STATEMENT of laws_FnUnifyRanges. -/
def laws_FnUnifyRanges.Pure : Prop := ∀ (l0 : List (S24)) (l1 : List (S24)), (l0.length ≤ maxLen ∧ ∀ x_ ∈ l0, wf24 x_) → (l1.length ≤ maxLen ∧ ∀ x_ ∈ l1, wf24 x_) → ∃ k, laws_FnUnifyRanges.f k l0 l1 = some true

end Go.Proofs.Ytepealmdnaondaa.PAll
