-- Printed by a program of this session (mkprint.py over the kit's print.py)
import Derived.Test.YtnooghnbohjmlaaDoorMa
import Derived.Test.YtnooghnbohjmlaaDoorMc
namespace Go.Proofs.YtnooghnbohjmlaaDoor.PPl
open Go.RowKit Go.Proofs.YtnooghnbohjmlaaDoorW.PrintWords Go.Proofs.YtnooghnbohjmlaaDoorW.PrintLast Go.Proofs.YtnooghnbohjmlaaDoorW.PrintMore
attribute [local go_sem] max2_int max_two   -- for this text's walks alone
set_option linter.unusedVariables false
set_option linter.unusedSimpArgs false

/-! ### laws_FnLineSet: function 10 -/
def laws_FnLineSet.j0 : Nat → Int → Int → Int → Bool → Option (Bool)
  | 0, _, _, _, _ => none
  | k + 1, x0, x1, x2, x23 => if x23 = true then (some true) else ((some (([2] : List Int) : List Int)).bind fun y193 => ((spec_Unsigned.f k (IntKind.u64.wrap (x0)) 0).bind fun t196 => (if y193.length + t196.length < 140737488355328 then ((some (y193 ++ t196 : List Int)).bind fun y199 => ((some (([0, 9, 2] : List Int) : List Int)).bind fun y202 => (if y199.length + y202.length < 140737488355328 then ((some (y199 ++ y202 : List Int)).bind fun y205 => ((laws_usual.f).bind fun bt208 => ((spec_Fixed.f k x2 8 false).bind fun t213 => (if y205.length + t213.length < 140737488355328 then ((some (y205 ++ t213 : List Int)).bind fun y216 => (if y216.length < 140737488355328 then ((laws_rowsOf.f k bt208.1 bt208.2.1 bt208.2.2.1 bt208.2.2.2.1 bt208.2.2.2.2 x1 (y216 ++ [1]) 2).bind fun bt222 => (if bt222.2 = true then (if 0 < (bt222.1.length : Int) then (if ((rd_T38 bt222.1 0).f1) = 0 then (if ((rd_T38 bt222.1 0).f0) = x2 then (if 1 < (bt222.1.length : Int) then (some (((rd_T38 bt222.1 1).f0) == x2)) else (none)) else (some false)) else (some false)) else (none)) else (some false))) else (none))) else (none))))) else (none)))) else (none))))
def laws_FnLineSet.f (k : Nat) (a0 : Int) (a1 : Int) (a2 : Int) : Option (Bool) := if a0 < 0 then (laws_FnLineSet.j0 k a0 a1 a2 true) else (if a0 > 2147483648 then (laws_FnLineSet.j0 k a0 a1 a2 true) else (if a1 > 4611686018427387904 then (laws_FnLineSet.j0 k a0 a1 a2 true) else (laws_FnLineSet.j0 k a0 a1 a2 (decide (a2 > 4611686018427387904)))))
theorem laws_FnLineSet.mono_l : ∀ k, (∀ y0 y1 y2 y3, LeO (laws_FnLineSet.j0 k y0 y1 y2 y3) (laws_FnLineSet.j0 (k + 1) y0 y1 y2 y3))
  | 0 => fun _ _ _ _ r h => by simp [laws_FnLineSet.j0] at h
  | k + 1 => by
    have ih0 := laws_FnLineSet.mono_l k
    · intro y0 y1 y2 y3
      unfold laws_FnLineSet.j0
      repeat' first
      | (with_reducible exact ih0 _ _ _ _)
      | (with_reducible exact laws_rowsOf.mono _ _ _ _ _ _ _ _ _)
      | (with_reducible exact spec_Fixed.mono _ _ _ _)
      | (with_reducible exact spec_Unsigned.mono _ _ _)
      | (with_reducible exact LeO.refl _)
      | (with_reducible exact LeO.none _)
      | (with_reducible refine LeO.ite ?_ ?_)
      | (with_reducible refine LeO.bind ?_ (fun _ => ?_))
      | exact ih0 _ _ _ _
      | exact laws_rowsOf.mono _ _ _ _ _ _ _ _ _
      | exact spec_Fixed.mono _ _ _ _
      | exact spec_Unsigned.mono _ _ _
      | exact LeO.none _
      | refine LeO.ite ?_ ?_
      | refine LeO.bind ?_ (fun _ => ?_)
theorem laws_FnLineSet.mono : ∀ a0 a1 a2 k, LeO (laws_FnLineSet.f k a0 a1 a2) (laws_FnLineSet.f (k + 1) a0 a1 a2) := by
  intro a0 a1 a2 k
  have ih0 := laws_FnLineSet.mono_l k
  unfold laws_FnLineSet.f
  repeat' first
      | (with_reducible exact ih0 _ _ _ _)
      | (with_reducible exact laws_rowsOf.mono _ _ _ _ _ _ _ _ _)
      | (with_reducible exact spec_Fixed.mono _ _ _ _)
      | (with_reducible exact spec_Unsigned.mono _ _ _)
      | (with_reducible exact LeO.refl _)
      | (with_reducible exact LeO.none _)
      | (with_reducible refine LeO.ite ?_ ?_)
      | (with_reducible refine LeO.bind ?_ (fun _ => ?_))
      | exact ih0 _ _ _ _
      | exact laws_rowsOf.mono _ _ _ _ _ _ _ _ _
      | exact spec_Fixed.mono _ _ _ _
      | exact spec_Unsigned.mono _ _ _
      | exact LeO.none _
      | refine LeO.ite ?_ ?_
      | refine LeO.bind ?_ (fun _ => ?_)
set_option maxHeartbeats 8000000 in
set_option maxRecDepth 100000 in
theorem laws_FnLineSet.calls (k : Nat) (a0 : Int) (a1 : Int) (a2 : Int) (r : Bool) (w : World) (h : laws_FnLineSet.f k a0 a1 a2 = some r) (hG : Glob w) (hrt : r = true) :
    Calls Tryd.prog 10 #[.int .i64 a0, .int .u64 a1, .int .u64 a2] w fun e w' => e = .returned (.bool r) ∧ Below w.heap.size w w' := by
  have HGL := Aside0.mk hG
  clear hG
  have HRT := Aside0.mk hrt
  clear hrt
  have HB := Aside0.mk (Below.refl w.heap.size w)
  have H : (if a0 < 0 then (laws_FnLineSet.j0 k a0 a1 a2 true) else (if a0 > 2147483648 then (laws_FnLineSet.j0 k a0 a1 a2 true) else (if a1 > 4611686018427387904 then (laws_FnLineSet.j0 k a0 a1 a2 true) else (laws_FnLineSet.j0 k a0 a1 a2 (decide (a2 > 4611686018427387904)))))) = some r := h
  clear h
  have HC4 := Aside0.mk H
  clear H
  go_enter Tryd.func10, Tryd.ntmps10
  go_upto_region 1 with (fail)
  go_cut [23] (fun v23 wc => ∃ (kq : Nat) (x23_3 : Bool), v23 = .bool x23_3 ∧ Aside0 (laws_FnLineSet.j0 kq a0 a1 a2 x23_3 = some r) ∧ Aside0 (kq ≤ k) ∧ Aside0 (Below w.heap.size w wc))
  case first =>
    have H := HC4.out
    clear HC4
    by_cases c5 : a0 < 0
    · rw [if_pos c5] at H
      have c5b0 : decide (a0 < 0) = true := decide_eq_true c5
      clear c5
      (first | rw [c5b0] | (simp only [i64_w, i32_w]; rw [c5b0]) | skip)
      have H' := Aside0.mk H
      clear H
      go_wp2
      go_meet
      case rel => exact ⟨_, (true), (by first | rfl | (simp; done) | (simp [*]; done)), H', ⟨by first | omega | exact Nat.le_refl _⟩, ⟨by repeat (first | (with_reducible first | exact HB.out | apply below_alloc | apply pw_below_drewN | apply below_drew1) | exact HB.out)⟩⟩
    · rw [if_neg c5] at H
      have c5b0 : decide (a0 < 0) = false := decide_eq_false c5
      clear c5
      (first | rw [c5b0] | (simp only [i64_w, i32_w]; rw [c5b0]) | skip)
      by_cases c6 : a0 > 2147483648
      · rw [if_pos c6] at H
        have c6b0 : decide (2147483648 < a0) = true := decide_eq_true c6
        clear c6
        have H' := Aside0.mk H
        clear H
        go_wp2
        go_meet
        case rel => exact ⟨_, (true), (by first | rfl | (simp; done) | (simp [*]; done)), H', ⟨by first | omega | exact Nat.le_refl _⟩, ⟨by repeat (first | (with_reducible first | exact HB.out | apply below_alloc | apply pw_below_drewN | apply below_drew1) | exact HB.out)⟩⟩
      · rw [if_neg c6] at H
        have c6b0 : decide (2147483648 < a0) = false := decide_eq_false c6
        clear c6
        by_cases c7 : a1 > 4611686018427387904
        · rw [if_pos c7] at H
          have c7b0 : decide (4611686018427387904 < a1) = true := decide_eq_true c7
          clear c7
          have H' := Aside0.mk H
          clear H
          go_wp2
          go_meet
          case rel => exact ⟨_, (true), (by first | rfl | (simp; done) | (simp [*]; done)), H', ⟨by first | omega | exact Nat.le_refl _⟩, ⟨by repeat (first | (with_reducible first | exact HB.out | apply below_alloc | apply pw_below_drewN | apply below_drew1) | exact HB.out)⟩⟩
        · rw [if_neg c7] at H
          have c7b0 : decide (4611686018427387904 < a1) = false := decide_eq_false c7
          clear c7
          have H' := Aside0.mk H
          clear H
          go_wp2
          go_meet
          case rel => exact ⟨_, (decide (a2 > 4611686018427387904)), (by first | rfl | (simp; done) | (simp [*]; done)), H', ⟨by first | omega | exact Nat.le_refl _⟩, ⟨by repeat (first | (with_reducible first | exact HB.out | apply below_alloc | apply pw_below_drewN | apply below_drew1) | exact HB.out)⟩⟩
  case rest =>
    clear HC4
    try clear c1
    try clear p2
    try clear c5
    try clear c5b0
    try clear c6
    try clear c6b0
    try clear c7
    try clear c7b0
    obtain ⟨kq, x23_3, rfl, HA, HJ3, HB⟩ := hcut
    cases kq with
    | zero => exact absurd HA.out (by simp [laws_FnLineSet.j0])
    | succ kj3 =>
      have H := HA.out
      clear HA
      simp only [laws_FnLineSet.j0] at H
      by_cases c8 : x23_3 = true
      · subst c8
        have H1 : (some true) = some r := by rw [if_pos rfl] at H; exact H
        clear H
        have H := H1
        clear H1
        obtain rfl := Option.some.inj H
        go_wp2
        go_ret
        exact ⟨by first | rfl | (simp [errW_none, errW_some] <;> rfl) | (simp [*, errW_none, errW_some] <;> rfl), by repeat (first | (with_reducible first | exact HB.out | apply below_alloc | apply pw_below_drewN | apply below_drew1) | exact HB.out)⟩
      · replace c8 := Bool.eq_false_iff.mpr c8
        subst c8
        have H1 : ((some (([2] : List Int) : List Int)).bind fun y193 => ((spec_Unsigned.f kj3 (IntKind.u64.wrap (a0)) 0).bind fun t196 => (if y193.length + t196.length < 140737488355328 then ((some (y193 ++ t196 : List Int)).bind fun y199 => ((some (([0, 9, 2] : List Int) : List Int)).bind fun y202 => (if y199.length + y202.length < 140737488355328 then ((some (y199 ++ y202 : List Int)).bind fun y205 => ((laws_usual.f).bind fun bt208 => ((spec_Fixed.f kj3 a2 8 false).bind fun t213 => (if y205.length + t213.length < 140737488355328 then ((some (y205 ++ t213 : List Int)).bind fun y216 => (if y216.length < 140737488355328 then ((laws_rowsOf.f kj3 bt208.1 bt208.2.1 bt208.2.2.1 bt208.2.2.2.1 bt208.2.2.2.2 a1 (y216 ++ [1]) 2).bind fun bt222 => (if bt222.2 = true then (if 0 < (bt222.1.length : Int) then (if ((rd_T38 bt222.1 0).f1) = 0 then (if ((rd_T38 bt222.1 0).f0) = a2 then (if 1 < (bt222.1.length : Int) then (some (((rd_T38 bt222.1 1).f0) == a2)) else (none)) else (some false)) else (some false)) else (none)) else (some false))) else (none))) else (none))))) else (none)))) else (none)))) = some r := by rw [if_neg (show ¬ (false = true) by decide)] at H; exact H
        clear H
        have H := H1
        clear H1
        obtain ⟨y193, hy193⟩ : ∃ y_ : List Int, y_ = (([2] : List Int)) := ⟨_, rfl⟩
        replace H : ((spec_Unsigned.f kj3 (IntKind.u64.wrap (a0)) 0).bind fun t196 => (if y193.length + t196.length < 140737488355328 then ((some (y193 ++ t196 : List Int)).bind fun y199 => ((some (([0, 9, 2] : List Int) : List Int)).bind fun y202 => (if y199.length + y202.length < 140737488355328 then ((some (y199 ++ y202 : List Int)).bind fun y205 => ((laws_usual.f).bind fun bt208 => ((spec_Fixed.f kj3 a2 8 false).bind fun t213 => (if y205.length + t213.length < 140737488355328 then ((some (y205 ++ t213 : List Int)).bind fun y216 => (if y216.length < 140737488355328 then ((laws_rowsOf.f kj3 bt208.1 bt208.2.1 bt208.2.2.1 bt208.2.2.2.1 bt208.2.2.2.2 a1 (y216 ++ [1]) 2).bind fun bt222 => (if bt222.2 = true then (if 0 < (bt222.1.length : Int) then (if ((rd_T38 bt222.1 0).f1) = 0 then (if ((rd_T38 bt222.1 0).f0) = a2 then (if 1 < (bt222.1.length : Int) then (some (((rd_T38 bt222.1 1).f0) == a2)) else (none)) else (some false)) else (some false)) else (none)) else (some false))) else (none))) else (none))))) else (none)))) else (none))) = some r := by first | (rw [hy193]; with_reducible exact H) | (have H2_ := (Option.bind_some _ _).symm.trans H; rw [hy193]; with_reducible exact H2_) | (have H2_ := (Option.bind_some _ _).symm.trans H; with_reducible exact H2_) | with_reducible exact H | (rw [hy193]; exact H) | exact H
        have Ny193 := Aside0.mk hy193
        clear hy193
        replace H := Option.bind_eq_some_iff.mp H
        obtain ⟨t196, A90, H⟩ := H
        replace H : (if y193.length + t196.length < 140737488355328 then ((some (y193 ++ t196 : List Int)).bind fun y199 => ((some (([0, 9, 2] : List Int) : List Int)).bind fun y202 => (if y199.length + y202.length < 140737488355328 then ((some (y199 ++ y202 : List Int)).bind fun y205 => ((laws_usual.f).bind fun bt208 => ((spec_Fixed.f kj3 a2 8 false).bind fun t213 => (if y205.length + t213.length < 140737488355328 then ((some (y205 ++ t213 : List Int)).bind fun y216 => (if y216.length < 140737488355328 then ((laws_rowsOf.f kj3 bt208.1 bt208.2.1 bt208.2.2.1 bt208.2.2.2.1 bt208.2.2.2.2 a1 (y216 ++ [1]) 2).bind fun bt222 => (if bt222.2 = true then (if 0 < (bt222.1.length : Int) then (if ((rd_T38 bt222.1 0).f1) = 0 then (if ((rd_T38 bt222.1 0).f0) = a2 then (if 1 < (bt222.1.length : Int) then (some (((rd_T38 bt222.1 1).f0) == a2)) else (none)) else (some false)) else (some false)) else (none)) else (some false))) else (none))) else (none))))) else (none)))) else (none)) = some r := H
        have A9 := Aside0.mk A90
        clear A90
        by_cases c10 : y193.length + t196.length < 140737488355328
        · rw [if_pos c10] at H
          have LMc10 := Aside0.mk c10
          clear c10
          obtain ⟨y199, hy199⟩ : ∃ y_ : List Int, y_ = (y193 ++ t196) := ⟨_, rfl⟩
          replace H : ((some (([0, 9, 2] : List Int) : List Int)).bind fun y202 => (if y199.length + y202.length < 140737488355328 then ((some (y199 ++ y202 : List Int)).bind fun y205 => ((laws_usual.f).bind fun bt208 => ((spec_Fixed.f kj3 a2 8 false).bind fun t213 => (if y205.length + t213.length < 140737488355328 then ((some (y205 ++ t213 : List Int)).bind fun y216 => (if y216.length < 140737488355328 then ((laws_rowsOf.f kj3 bt208.1 bt208.2.1 bt208.2.2.1 bt208.2.2.2.1 bt208.2.2.2.2 a1 (y216 ++ [1]) 2).bind fun bt222 => (if bt222.2 = true then (if 0 < (bt222.1.length : Int) then (if ((rd_T38 bt222.1 0).f1) = 0 then (if ((rd_T38 bt222.1 0).f0) = a2 then (if 1 < (bt222.1.length : Int) then (some (((rd_T38 bt222.1 1).f0) == a2)) else (none)) else (some false)) else (some false)) else (none)) else (some false))) else (none))) else (none))))) else (none))) = some r := by first | (rw [hy199]; with_reducible exact H) | (have H2_ := (Option.bind_some _ _).symm.trans H; rw [hy199]; with_reducible exact H2_) | (have H2_ := (Option.bind_some _ _).symm.trans H; with_reducible exact H2_) | with_reducible exact H | (rw [hy199]; exact H) | exact H
          have Ny199 := Aside0.mk hy199
          clear hy199
          obtain ⟨y202, hy202⟩ : ∃ y_ : List Int, y_ = (([0, 9, 2] : List Int)) := ⟨_, rfl⟩
          replace H : (if y199.length + y202.length < 140737488355328 then ((some (y199 ++ y202 : List Int)).bind fun y205 => ((laws_usual.f).bind fun bt208 => ((spec_Fixed.f kj3 a2 8 false).bind fun t213 => (if y205.length + t213.length < 140737488355328 then ((some (y205 ++ t213 : List Int)).bind fun y216 => (if y216.length < 140737488355328 then ((laws_rowsOf.f kj3 bt208.1 bt208.2.1 bt208.2.2.1 bt208.2.2.2.1 bt208.2.2.2.2 a1 (y216 ++ [1]) 2).bind fun bt222 => (if bt222.2 = true then (if 0 < (bt222.1.length : Int) then (if ((rd_T38 bt222.1 0).f1) = 0 then (if ((rd_T38 bt222.1 0).f0) = a2 then (if 1 < (bt222.1.length : Int) then (some (((rd_T38 bt222.1 1).f0) == a2)) else (none)) else (some false)) else (some false)) else (none)) else (some false))) else (none))) else (none))))) else (none)) = some r := by first | (rw [hy202]; with_reducible exact H) | (have H2_ := (Option.bind_some _ _).symm.trans H; rw [hy202]; with_reducible exact H2_) | (have H2_ := (Option.bind_some _ _).symm.trans H; with_reducible exact H2_) | with_reducible exact H | (rw [hy202]; exact H) | exact H
          have Ny202 := Aside0.mk hy202
          clear hy202
          by_cases c11 : y199.length + y202.length < 140737488355328
          · rw [if_pos c11] at H
            have LMc11 := Aside0.mk c11
            clear c11
            obtain ⟨y205, hy205⟩ : ∃ y_ : List Int, y_ = (y199 ++ y202) := ⟨_, rfl⟩
            replace H : ((laws_usual.f).bind fun bt208 => ((spec_Fixed.f kj3 a2 8 false).bind fun t213 => (if y205.length + t213.length < 140737488355328 then ((some (y205 ++ t213 : List Int)).bind fun y216 => (if y216.length < 140737488355328 then ((laws_rowsOf.f kj3 bt208.1 bt208.2.1 bt208.2.2.1 bt208.2.2.2.1 bt208.2.2.2.2 a1 (y216 ++ [1]) 2).bind fun bt222 => (if bt222.2 = true then (if 0 < (bt222.1.length : Int) then (if ((rd_T38 bt222.1 0).f1) = 0 then (if ((rd_T38 bt222.1 0).f0) = a2 then (if 1 < (bt222.1.length : Int) then (some (((rd_T38 bt222.1 1).f0) == a2)) else (none)) else (some false)) else (some false)) else (none)) else (some false))) else (none))) else (none)))) = some r := by first | (rw [hy205]; with_reducible exact H) | (have H2_ := (Option.bind_some _ _).symm.trans H; rw [hy205]; with_reducible exact H2_) | (have H2_ := (Option.bind_some _ _).symm.trans H; with_reducible exact H2_) | with_reducible exact H | (rw [hy205]; exact H) | exact H
            have Ny205 := Aside0.mk hy205
            clear hy205
            replace H := Option.bind_eq_some_iff.mp H
            obtain ⟨⟨t208, t209, t210, t211, t212⟩, A120, H⟩ := H
            replace H : ((spec_Fixed.f kj3 a2 8 false).bind fun t213 => (if y205.length + t213.length < 140737488355328 then ((some (y205 ++ t213 : List Int)).bind fun y216 => (if y216.length < 140737488355328 then ((laws_rowsOf.f kj3 t208 t209 t210 t211 t212 a1 (y216 ++ [1]) 2).bind fun bt222 => (if bt222.2 = true then (if 0 < (bt222.1.length : Int) then (if ((rd_T38 bt222.1 0).f1) = 0 then (if ((rd_T38 bt222.1 0).f0) = a2 then (if 1 < (bt222.1.length : Int) then (some (((rd_T38 bt222.1 1).f0) == a2)) else (none)) else (some false)) else (some false)) else (none)) else (some false))) else (none))) else (none))) = some r := H
            have A12 := Aside0.mk A120
            clear A120
            replace H := Option.bind_eq_some_iff.mp H
            obtain ⟨t213, A130, H⟩ := H
            replace H : (if y205.length + t213.length < 140737488355328 then ((some (y205 ++ t213 : List Int)).bind fun y216 => (if y216.length < 140737488355328 then ((laws_rowsOf.f kj3 t208 t209 t210 t211 t212 a1 (y216 ++ [1]) 2).bind fun bt222 => (if bt222.2 = true then (if 0 < (bt222.1.length : Int) then (if ((rd_T38 bt222.1 0).f1) = 0 then (if ((rd_T38 bt222.1 0).f0) = a2 then (if 1 < (bt222.1.length : Int) then (some (((rd_T38 bt222.1 1).f0) == a2)) else (none)) else (some false)) else (some false)) else (none)) else (some false))) else (none))) else (none)) = some r := H
            have A13 := Aside0.mk A130
            clear A130
            by_cases c14 : y205.length + t213.length < 140737488355328
            · rw [if_pos c14] at H
              have LMc14 := Aside0.mk c14
              clear c14
              obtain ⟨y216, hy216⟩ : ∃ y_ : List Int, y_ = (y205 ++ t213) := ⟨_, rfl⟩
              replace H : (if y216.length < 140737488355328 then ((laws_rowsOf.f kj3 t208 t209 t210 t211 t212 a1 (y216 ++ [1]) 2).bind fun bt222 => (if bt222.2 = true then (if 0 < (bt222.1.length : Int) then (if ((rd_T38 bt222.1 0).f1) = 0 then (if ((rd_T38 bt222.1 0).f0) = a2 then (if 1 < (bt222.1.length : Int) then (some (((rd_T38 bt222.1 1).f0) == a2)) else (none)) else (some false)) else (some false)) else (none)) else (some false))) else (none)) = some r := by first | (rw [hy216]; with_reducible exact H) | (have H2_ := (Option.bind_some _ _).symm.trans H; rw [hy216]; with_reducible exact H2_) | (have H2_ := (Option.bind_some _ _).symm.trans H; with_reducible exact H2_) | with_reducible exact H | (rw [hy216]; exact H) | exact H
              have Ny216 := Aside0.mk hy216
              clear hy216
              by_cases c15 : y216.length < 140737488355328
              · rw [if_pos c15] at H
                have LMc15 := Aside0.mk c15
                clear c15
                obtain ⟨y219, hy219⟩ : ∃ y_ : List Int, y_ = (y216 ++ [1]) := ⟨_, rfl⟩
                replace H : ((laws_rowsOf.f kj3 t208 t209 t210 t211 t212 a1 y219 2).bind fun bt222 => (if bt222.2 = true then (if 0 < (bt222.1.length : Int) then (if ((rd_T38 bt222.1 0).f1) = 0 then (if ((rd_T38 bt222.1 0).f0) = a2 then (if 1 < (bt222.1.length : Int) then (some (((rd_T38 bt222.1 1).f0) == a2)) else (none)) else (some false)) else (some false)) else (none)) else (some false))) = some r := by first | (rw [hy219]; with_reducible exact H) | (have H2_ := (Option.bind_some _ _).symm.trans H; rw [hy219]; with_reducible exact H2_) | (have H2_ := (Option.bind_some _ _).symm.trans H; with_reducible exact H2_) | with_reducible exact H | (rw [hy219]; exact H) | exact H
                have Ny219 := Aside0.mk hy219
                clear hy219
                replace H := Option.bind_eq_some_iff.mp H
                obtain ⟨⟨t222, t225⟩, A160, H⟩ := H
                replace H : (if t225 = true then (if 0 < (t222.length : Int) then (if ((rd_T38 t222 0).f1) = 0 then (if ((rd_T38 t222 0).f0) = a2 then (if 1 < (t222.length : Int) then (some (((rd_T38 t222 1).f0) == a2)) else (none)) else (some false)) else (some false)) else (none)) else (some false)) = some r := H
                have A16 := Aside0.mk A160
                clear A160
                by_cases c17 : t225 = true
                · subst c17
                  have H1 : (if 0 < (t222.length : Int) then (if ((rd_T38 t222 0).f1) = 0 then (if ((rd_T38 t222 0).f0) = a2 then (if 1 < (t222.length : Int) then (some (((rd_T38 t222 1).f0) == a2)) else (none)) else (some false)) else (some false)) else (none)) = some r := by rw [if_pos rfl] at H; exact H
                  clear H
                  have H := H1
                  clear H1
                  by_cases c18 : 0 < (t222.length : Int)
                  · rw [if_pos c18] at H
                    have c18b0 : decide (0 < (t222.length : Int)) = true := decide_eq_true c18
                    have c18b1 : decide (0 < t222.length) = true := decide_eq_true (by omega)
                    clear c18
                    by_cases c19 : ((rd_T38 t222 0).f1) = 0
                    · rw [if_pos c19] at H
                      have c19b0 : (((rd_T38 t222 0).f1) == 0) = true := beq_iff_eq.mpr c19
                      have c19b1 : (((rd_T38 t222 0).f1) != 0) = false := bne_eq_false_iff_eq.mpr c19
                      clear c19
                      by_cases c20 : ((rd_T38 t222 0).f0) = a2
                      · rw [if_pos c20] at H
                        have c20b0 : (((rd_T38 t222 0).f0) == a2) = true := beq_iff_eq.mpr c20
                        have c20b1 : (((rd_T38 t222 0).f0) != a2) = false := bne_eq_false_iff_eq.mpr c20
                        clear c20
                        by_cases c21 : 1 < (t222.length : Int)
                        · rw [if_pos c21] at H
                          have c21b0 : decide (1 < (t222.length : Int)) = true := decide_eq_true c21
                          have c21b1 : decide (1 < t222.length) = true := decide_eq_true (by omega)
                          clear c21
                          obtain rfl := Option.some.inj H
                          go_wp2_with (first | ((with_reducible refine gate_dst (N := 24) rfl ?_); refine Kd.R_lit (Kd.int .u8) _ 5 ?hg (N := 24) ?hd (xs := ([2] : List Int)) (inner := [.int .u8 2]) (ok := fun _ => True) (okp := fun _ => True) ?hr ?hp (fun _ hk => hk) trivial (Below.refl _ _) (Nat.le_refl _) (by simp) ?_; (case hd => rfl); (case hg => rfl); (case hr => first | (go_simp; done) | (go_simp; rfl)); (case hp => exact (Reps.one (show Kd.M (Kd.int .u8) _ _ _ 2 [.int .u8 2] from rfl) (Reps.none _ _))); intro v194 w22 ho23 hb hg_ hnew_; clear hg_ hnew_; (first | rw [← Ny193.out] at ho23 | (simp only [Int.reduceToNat] at ho23; rw [← Ny193.out] at ho23)); have n0_ := Aside0.mk (Kd.R_lower ho23 (below_size qB)); have n1_ := Aside0.mk (below_step qB hb); clear HB; have HO195 := n0_; have HB := n1_; clear n0_ n1_; clear hb ho23) | ((with_reducible refine gate_callee (f := 13) rfl ?_); refine goesL_ (some 27) rfl rfl Tryd.func13 (by kernel_rfl) rfl #[.int .u64 (IntKind.u64.wrap (a0)), .int .i64 0] rfl qL ?_; (with_reducible refine (spec_Unsigned.calls kj3 (IntKind.u64.wrap (a0)) 0 t196 _ A9.out).mono ?_); rintro e w24 ⟨v197, rfl, ho0, hb⟩; refine ⟨_, rfl, ?_⟩; have n0_ := Aside0.mk (Kd.R_elder' (qR HO195.out) (Kd.R_base ho0) hb); have n1_ := Aside0.mk (Kd.R_lower (Kd.R_new' ho0 (Kd.R_lt (qR HO195.out))) (below_size qB)); have n2_ := Aside0.mk (below_step qB hb); clear HO195; clear HB; have HO195 := n0_; have HO198 := n1_; have HB := n2_; clear n0_ n1_ n2_; (try clear hb); (try clear hb2); (try clear hk); (try clear hi); (try clear ho0); obtain ⟨Ao26, co26, eo26⟩ := Kd.R_slice HO198.out; subst eo26) | ((with_reducible refine gate_builtin (b := .append) (xs := #[.tmp 24, .tmp 27]) rfl ?_); at_builtin; refine Kd.R_append_rows (Kd.int .u8) (w0 := w) w.heap.size rfl (.tmp 24) (.tmp 27) 23 5 (.int .u8 0) 1 rfl Tryd.underlying23 info5 rfl (by decide) (by omega) v194 y193 t196 _ _ _ (fun k_ => some k_ ≠ (.slice Ao26 t196.length co26 : Value).ownBlock) (fun _ => False) rfl rfl ?aO ?aR (fun _ _ h => h) (fun _ h => h.elim) ?aF ?aB ?aS ?aL ?_; (case aR => exact qC (Kd.R_reads' HO198.out).2.2); (case aB => exact qB); (case aF => exact (fun k_ hk => Kd.fresh' (Kd.R_lt (qR HO198.out)) k_ hk)); (case aO => exact (by (with_reducible repeat (first | apply Kd.R_alloc | apply Kd.R_drewN | apply Kd.R_drew)); exact Kd.R_mono HO195.out (fun _ hk => hk.2))); (case aS => exact (below_size qB)); (case aL => have := LMc10.out; omega); intro v200 w25 ho hb hg hat; rw [← Ny199.out] at ho; have n0_ := Aside0.mk (Kd.R_after (ok := (fun _ => True)) (qR HO198.out) hg hat); have n1_ := Aside0.mk (hb); have n2_ := Aside0.mk (ho); clear HO198; clear HB; clear HO195; have HO198 := n0_; have HB := n1_; have HO201 := n2_; clear n0_ n1_ n2_; clear ho hb hg hat) | ((with_reducible refine gate_dst (N := 29) rfl ?_); refine Kd.R_lit (Kd.int .u8) _ 5 ?hg (N := 29) ?hd (xs := ([0, 9, 2] : List Int)) (inner := [.int .u8 0, .int .u8 9, .int .u8 2]) (ok := fun _ => True) (okp := fun _ => True) ?hr ?hp (fun _ hk => hk) trivial (Below.refl _ _) (Nat.le_refl _) (by simp) ?_; (case hd => rfl); (case hg => rfl); (case hr => first | (go_simp; done) | (go_simp; rfl)); (case hp => exact (Reps.one (show Kd.M (Kd.int .u8) _ _ _ 0 [.int .u8 0] from rfl) (Reps.one (show Kd.M (Kd.int .u8) _ _ _ 9 [.int .u8 9] from rfl) (Reps.one (show Kd.M (Kd.int .u8) _ _ _ 2 [.int .u8 2] from rfl) (Reps.none _ _))))); intro v203 w27 ho28 hb hg_ hnew_; clear hg_ hnew_; (first | rw [← Ny202.out] at ho28 | (simp only [Int.reduceToNat] at ho28; rw [← Ny202.out] at ho28)); have n0_ := Aside0.mk (Kd.R_elder' (qR HO198.out) (Kd.R_base ho28) hb); have n1_ := Aside0.mk (Kd.R_elder' (qR HO201.out) (Kd.R_base ho28) hb); have n2_ := Aside0.mk (Kd.R_lower (Kd.R_new' (Kd.R_new' ho28 (Kd.R_lt (qR HO198.out))) (Kd.R_lt (qR HO201.out))) (below_size qB)); have n3_ := Aside0.mk (below_step qB hb); clear HO198; clear HO201; clear HB; have HO198 := n0_; have HO201 := n1_; have HO204 := n2_; have HB := n3_; clear n0_ n1_ n2_ n3_; clear hb ho28; obtain ⟨Ao30, co30, eo30⟩ := Kd.R_slice HO204.out; subst eo30) | ((with_reducible refine gate_builtin (b := .append) (xs := #[.tmp 28, .tmp 29]) rfl ?_); at_builtin; refine Kd.R_append_rows (Kd.int .u8) (w0 := w) w.heap.size rfl (.tmp 28) (.tmp 29) 23 5 (.int .u8 0) 1 rfl Tryd.underlying23 info5 rfl (by decide) (by omega) v200 y199 y202 _ _ _ (fun k_ => some k_ ≠ (.slice Ao26 t196.length co26 : Value).ownBlock ∧ some k_ ≠ (.slice Ao30 y202.length co30 : Value).ownBlock) (fun _ => False) rfl rfl ?aO ?aR (fun _ _ h => h) (fun _ h => h.elim) ?aF ?aB ?aS ?aL ?_; (case aR => exact qC (Kd.R_reads' HO204.out).2.2); (case aB => exact qB); (case aF => exact (fun k_ hk => ⟨Kd.fresh' (Kd.R_lt (qR HO198.out)) k_ hk, Kd.fresh' (Kd.R_lt (qR HO204.out)) k_ hk⟩)); (case aO => exact (qR HO201.out)); (case aS => exact (below_size qB)); (case aL => have := LMc11.out; omega); intro v206 w29 ho hb hg hat; rw [← Ny205.out] at ho; have n0_ := Aside0.mk (Kd.R_after (ok := (fun k_ => some k_ ≠ (.slice Ao30 y202.length co30 : Value).ownBlock)) (by (with_reducible repeat (first | apply Kd.R_alloc | apply Kd.R_drewN | apply Kd.R_drew)); exact Kd.R_mono HO198.out (fun _ hk => ⟨hk.2, hk.1.2⟩)) hg hat); have n1_ := Aside0.mk (Kd.R_after (ok := (fun k_ => some k_ ≠ (.slice Ao26 t196.length co26 : Value).ownBlock)) (by (with_reducible repeat (first | apply Kd.R_alloc | apply Kd.R_drewN | apply Kd.R_drew)); exact Kd.R_mono HO204.out (fun _ hk => ⟨hk.1.2, hk.2⟩)) hg hat); have n2_ := Aside0.mk (hb); have n3_ := Aside0.mk (ho); clear HO198; clear HO204; clear HB; clear HO201; have HO198 := n0_; have HO204 := n1_; have HB := n2_; have HO207 := n3_; clear n0_ n1_ n2_ n3_; clear ho hb hg hat) | ((with_reducible refine gate_callee (f := 16) rfl ?_); refine goesL_ (some 32) rfl rfl Tryd.func16 (by kernel_rfl) rfl #[] rfl qL ?_; (with_reducible refine (laws_usual.calls  t208 t209 t210 t211 t212 _ A12.out).mono ?_); rintro e w31 ⟨rfl, hb⟩; refine ⟨_, rfl, ?_⟩; have n0_ := Aside0.mk (Kd.R_below (qR HO198.out) hb); have n1_ := Aside0.mk (Kd.R_below (qR HO204.out) hb); have n2_ := Aside0.mk (Kd.R_below (qR HO207.out) hb); have n3_ := Aside0.mk (below_step qB hb); clear HO198; clear HO204; clear HO207; clear HB; have HO198 := n0_; have HO204 := n1_; have HO207 := n2_; have HB := n3_; clear n0_ n1_ n2_ n3_; (try clear hb); (try clear hb2); (try clear hk); (try clear hi)) | ((with_reducible refine gate_callee (f := 20) rfl ?_); refine goesL_ (some 36) rfl rfl Tryd.func20 (by kernel_rfl) rfl #[.int .u64 a2, .int .i64 8, .bool false] rfl qL ?_; (with_reducible refine (spec_Fixed.calls kj3 a2 8 false t213 _ A13.out).mono ?_); rintro e w32 ⟨v214, rfl, ho0, hb⟩; refine ⟨_, rfl, ?_⟩; have n0_ := Aside0.mk (Kd.R_elder' (qR HO198.out) (Kd.R_base ho0) hb); have n1_ := Aside0.mk (Kd.R_elder' (qR HO204.out) (Kd.R_base ho0) hb); have n2_ := Aside0.mk (Kd.R_elder' (qR HO207.out) (Kd.R_base ho0) hb); have n3_ := Aside0.mk (Kd.R_lower (Kd.R_new' (Kd.R_new' (Kd.R_new' ho0 (Kd.R_lt (qR HO198.out))) (Kd.R_lt (qR HO204.out))) (Kd.R_lt (qR HO207.out))) (below_size qB)); have n4_ := Aside0.mk (below_step qB hb); clear HO198; clear HO204; clear HO207; clear HB; have HO198 := n0_; have HO204 := n1_; have HO207 := n2_; have HO215 := n3_; have HB := n4_; clear n0_ n1_ n2_ n3_ n4_; (try clear hb); (try clear hb2); (try clear hk); (try clear hi); (try clear ho0); obtain ⟨Ao34, co34, eo34⟩ := Kd.R_slice HO215.out; subst eo34) | ((with_reducible refine gate_builtin (b := .append) (xs := #[.tmp 34, .tmp 36]) rfl ?_); at_builtin; refine Kd.R_append_rows (Kd.int .u8) (w0 := w) w.heap.size rfl (.tmp 34) (.tmp 36) 23 5 (.int .u8 0) 1 rfl Tryd.underlying23 info5 rfl (by decide) (by omega) v206 y205 t213 _ _ _ (fun k_ => some k_ ≠ (.slice Ao26 t196.length co26 : Value).ownBlock ∧ some k_ ≠ (.slice Ao30 y202.length co30 : Value).ownBlock ∧ some k_ ≠ (.slice Ao34 t213.length co34 : Value).ownBlock) (fun _ => False) rfl rfl ?aO ?aR (fun _ _ h => h) (fun _ h => h.elim) ?aF ?aB ?aS ?aL ?_; (case aR => exact qC (Kd.R_reads' HO215.out).2.2); (case aB => exact qB); (case aF => exact (fun k_ hk => ⟨Kd.fresh' (Kd.R_lt (qR HO198.out)) k_ hk, Kd.fresh' (Kd.R_lt (qR HO204.out)) k_ hk, Kd.fresh' (Kd.R_lt (qR HO215.out)) k_ hk⟩)); (case aO => exact (by (with_reducible repeat (first | apply Kd.R_alloc | apply Kd.R_drewN | apply Kd.R_drew)); exact Kd.R_mono HO207.out (fun _ hk => ⟨hk.1.1, ⟨hk.1.2, hk.2⟩⟩))); (case aS => exact (below_size qB)); (case aL => have := LMc14.out; omega); intro v217 w33 ho hb hg hat; rw [← Ny216.out] at ho; have n0_ := Aside0.mk (Kd.R_after (ok := (fun k_ => some k_ ≠ (.slice Ao30 y202.length co30 : Value).ownBlock ∧ some k_ ≠ (.slice Ao34 t213.length co34 : Value).ownBlock)) (by (with_reducible repeat (first | apply Kd.R_alloc | apply Kd.R_drewN | apply Kd.R_drew)); exact Kd.R_mono HO198.out (fun _ hk => ⟨⟨hk.1.1, hk.2⟩, hk.1.2⟩)) hg hat); have n1_ := Aside0.mk (Kd.R_after (ok := (fun k_ => some k_ ≠ (.slice Ao26 t196.length co26 : Value).ownBlock ∧ some k_ ≠ (.slice Ao34 t213.length co34 : Value).ownBlock)) (by (with_reducible repeat (first | apply Kd.R_alloc | apply Kd.R_drewN | apply Kd.R_drew)); exact Kd.R_mono HO204.out (fun _ hk => ⟨⟨hk.1.1, hk.2⟩, hk.1.2⟩)) hg hat); have n2_ := Aside0.mk (Kd.R_after (ok := (fun k_ => some k_ ≠ (.slice Ao26 t196.length co26 : Value).ownBlock ∧ some k_ ≠ (.slice Ao30 y202.length co30 : Value).ownBlock)) (by (with_reducible repeat (first | apply Kd.R_alloc | apply Kd.R_drewN | apply Kd.R_drew)); exact Kd.R_mono HO215.out (fun _ hk => ⟨⟨hk.1.1.2, hk.1.2⟩, hk.2⟩)) hg hat); have n3_ := Aside0.mk (hb); have n4_ := Aside0.mk (ho); clear HO198; clear HO204; clear HO215; clear HB; clear HO207; have HO198 := n0_; have HO204 := n1_; have HO215 := n2_; have HB := n3_; have HO218 := n4_; clear n0_ n1_ n2_ n3_ n4_; clear ho hb hg hat) | ((with_reducible refine gate_builtin (b := .append) (xs := #[.tmp 37, .tmp 38]) rfl ?_); at_builtin; refine Kd.R_append (Kd.int .u8) (w0 := w) w.heap.size rfl (.tmp 37) (.tmp 38) 23 5 (.int .u8 0) 1 rfl Tryd.underlying23 info5 rfl (by decide) (by omega) v217 y216 1 [.int .u8 1] (fun k_ => some k_ ≠ (.slice Ao26 t196.length co26 : Value).ownBlock ∧ some k_ ≠ (.slice Ao30 y202.length co30 : Value).ownBlock ∧ some k_ ≠ (.slice Ao34 t213.length co34 : Value).ownBlock) (fun _ => False) rfl rfl ?aP (fun _ hk => hk.elim) ?aF ?aO ?aB ?aS ?aL ?_; (case aP => exact rfl); (case aB => exact qB); (case aF => exact (fun k_ hk => ⟨Kd.fresh' (Kd.R_lt (qR HO198.out)) k_ hk, Kd.fresh' (Kd.R_lt (qR HO204.out)) k_ hk, Kd.fresh' (Kd.R_lt (qR HO215.out)) k_ hk⟩)); (case aO => exact (qR HO218.out)); (case aS => exact (below_size qB)); (case aL => have := LMc15.out; omega); intro v220 w35 ho hb hg hat; rw [← Ny219.out] at ho; have n0_ := Aside0.mk (Kd.R_after (ok := (fun k_ => some k_ ≠ (.slice Ao30 y202.length co30 : Value).ownBlock ∧ some k_ ≠ (.slice Ao34 t213.length co34 : Value).ownBlock)) (qR HO198.out) hg hat); have n1_ := Aside0.mk (Kd.R_after (ok := (fun k_ => some k_ ≠ (.slice Ao26 t196.length co26 : Value).ownBlock ∧ some k_ ≠ (.slice Ao34 t213.length co34 : Value).ownBlock)) (qR HO204.out) hg hat); have n2_ := Aside0.mk (Kd.R_after (ok := (fun k_ => some k_ ≠ (.slice Ao26 t196.length co26 : Value).ownBlock ∧ some k_ ≠ (.slice Ao30 y202.length co30 : Value).ownBlock)) (qR HO215.out) hg hat); have n3_ := Aside0.mk (hb); have n4_ := Aside0.mk (ho); clear HO198; clear HO204; clear HO215; clear HB; clear HO218; have HO198 := n0_; have HO204 := n1_; have HO215 := n2_; have HB := n3_; have HO221 := n4_; clear n0_ n1_ n2_ n3_ n4_; clear ho hb hg hat; obtain ⟨Ao36, co36, eo36⟩ := Kd.R_slice HO221.out; subst eo36) | ((with_reducible refine gate_callee (f := 19) rfl ?_); refine goesL_ (some 40) rfl rfl Tryd.func19 (by kernel_rfl) rfl #[.agg #[.int .i64 t208, .int .i64 t209, .int .i64 t210, .int .i64 t211, .int .i64 t212], .int .u64 a1, .slice Ao36 y219.length co36, .int .i64 2] rfl qL ?_; (with_reducible refine (laws_rowsOf.calls kj3 t208 t209 t210 t211 t212 a1 _ _ y219 2 t222 true _ ?side1 ?side2 A16.out ?sideG).mono ?_); (case sideG => exact HGL.out.below qB); (case side1 => exact qC (Kd.R_reads' HO221.out).2.2); (case side2 => exact (Kd.R_reads' HO221.out).2.1); rintro e w37 ⟨v223, rfl, ho0, hb⟩; refine ⟨_, rfl, ?_⟩; have n0_ := Aside0.mk (Kd.R_below (qR HO198.out) hb); have n1_ := Aside0.mk (Kd.R_below (qR HO204.out) hb); have n2_ := Aside0.mk (Kd.R_below (qR HO215.out) hb); have n3_ := Aside0.mk (Kd.R_below (qR HO221.out) hb); have n4_ := Aside0.mk (Kd.R_lower ho0 (below_size qB)); have n5_ := Aside0.mk (below_step qB hb); clear HO198; clear HO204; clear HO215; clear HO221; clear HB; have HO198 := n0_; have HO204 := n1_; have HO215 := n2_; have HO221 := n3_; have HO224 := n4_; have HB := n5_; clear n0_ n1_ n2_ n3_ n4_ n5_; (try clear hb); (try clear hb2); (try clear hk); (try clear hi); (try clear ho0); obtain ⟨Ao38, co38, eo38⟩ := Kd.R_slice HO224.out; subst eo38; have p226 : 0 ≤ (0 : Int) := (by omega); have q226 : 0 < (t222.length : Int) := of_decide_eq_true qA; obtain ⟨ad226, e226, hx226_0, hx226_1, hx226_2, hx226_3, hx226_4, hx226_5, hx226_6, hx226_7, hx226_8, hx226_9, hx226_10, hx226_11, hx226_12, hx226_13, hx226_14⟩ := at_T38 (Kd.R_reads' HO224.out).2.2 0 p226 q226; cases e226; have qi226 : (0 < t222.length) = True := eq_true (by omega); (try rw [show ((0 : Int)).toNat = 0 from rfl] at hx226_0); (try rw [show 0 * 15 = 0 from rfl] at hx226_0); (try rw [Addr.add_zero'] at hx226_0); (try rw [show ((0 : Int)).toNat = 0 from rfl] at hx226_1); (try rw [show 0 * 15 = 0 from rfl] at hx226_1); (try rw [Addr.add_zero'] at hx226_1); (try rw [show ((0 : Int)).toNat = 0 from rfl] at hx226_2); (try rw [show 0 * 15 = 0 from rfl] at hx226_2); (try rw [Addr.add_zero'] at hx226_2); (try rw [show ((0 : Int)).toNat = 0 from rfl] at hx226_3); (try rw [show 0 * 15 = 0 from rfl] at hx226_3); (try rw [Addr.add_zero'] at hx226_3); (try rw [show ((0 : Int)).toNat = 0 from rfl] at hx226_4); (try rw [show 0 * 15 = 0 from rfl] at hx226_4); (try rw [Addr.add_zero'] at hx226_4); (try rw [show ((0 : Int)).toNat = 0 from rfl] at hx226_5); (try rw [show 0 * 15 = 0 from rfl] at hx226_5); (try rw [Addr.add_zero'] at hx226_5); (try rw [show ((0 : Int)).toNat = 0 from rfl] at hx226_6); (try rw [show 0 * 15 = 0 from rfl] at hx226_6); (try rw [Addr.add_zero'] at hx226_6); (try rw [show ((0 : Int)).toNat = 0 from rfl] at hx226_7); (try rw [show 0 * 15 = 0 from rfl] at hx226_7); (try rw [Addr.add_zero'] at hx226_7); (try rw [show ((0 : Int)).toNat = 0 from rfl] at hx226_8); (try rw [show 0 * 15 = 0 from rfl] at hx226_8); (try rw [Addr.add_zero'] at hx226_8); (try rw [show ((0 : Int)).toNat = 0 from rfl] at hx226_9); (try rw [show 0 * 15 = 0 from rfl] at hx226_9); (try rw [Addr.add_zero'] at hx226_9); (try rw [show ((0 : Int)).toNat = 0 from rfl] at hx226_10); (try rw [show 0 * 15 = 0 from rfl] at hx226_10); (try rw [Addr.add_zero'] at hx226_10); (try rw [show ((0 : Int)).toNat = 0 from rfl] at hx226_11); (try rw [show 0 * 15 = 0 from rfl] at hx226_11); (try rw [Addr.add_zero'] at hx226_11); (try rw [show ((0 : Int)).toNat = 0 from rfl] at hx226_12); (try rw [show 0 * 15 = 0 from rfl] at hx226_12); (try rw [Addr.add_zero'] at hx226_12); (try rw [show ((0 : Int)).toNat = 0 from rfl] at hx226_13); (try rw [show 0 * 15 = 0 from rfl] at hx226_13); (try rw [Addr.add_zero'] at hx226_13); (try rw [show ((0 : Int)).toNat = 0 from rfl] at hx226_14); (try rw [show 0 * 15 = 0 from rfl] at hx226_14); (try rw [Addr.add_zero'] at hx226_14); replace p226 := eq_true p226; replace q226 := eq_true q226; have p227 : 0 ≤ (0 : Int) := (by omega); have q227 : 0 < (t222.length : Int) := of_decide_eq_true qA; obtain ⟨ad227, e227, hx227_0, hx227_1, hx227_2, hx227_3, hx227_4, hx227_5, hx227_6, hx227_7, hx227_8, hx227_9, hx227_10, hx227_11, hx227_12, hx227_13, hx227_14⟩ := at_T38 (Kd.R_reads' HO224.out).2.2 0 p227 q227; obtain rfl : ad226 = ad227 := (by injection e227); have qi227 : (0 < t222.length) = True := eq_true (by omega); (try rw [show ((0 : Int)).toNat = 0 from rfl] at hx227_0); (try rw [show 0 * 15 = 0 from rfl] at hx227_0); (try rw [Addr.add_zero'] at hx227_0); (try rw [show ((0 : Int)).toNat = 0 from rfl] at hx227_1); (try rw [show 0 * 15 = 0 from rfl] at hx227_1); (try rw [Addr.add_zero'] at hx227_1); (try rw [show ((0 : Int)).toNat = 0 from rfl] at hx227_2); (try rw [show 0 * 15 = 0 from rfl] at hx227_2); (try rw [Addr.add_zero'] at hx227_2); (try rw [show ((0 : Int)).toNat = 0 from rfl] at hx227_3); (try rw [show 0 * 15 = 0 from rfl] at hx227_3); (try rw [Addr.add_zero'] at hx227_3); (try rw [show ((0 : Int)).toNat = 0 from rfl] at hx227_4); (try rw [show 0 * 15 = 0 from rfl] at hx227_4); (try rw [Addr.add_zero'] at hx227_4); (try rw [show ((0 : Int)).toNat = 0 from rfl] at hx227_5); (try rw [show 0 * 15 = 0 from rfl] at hx227_5); (try rw [Addr.add_zero'] at hx227_5); (try rw [show ((0 : Int)).toNat = 0 from rfl] at hx227_6); (try rw [show 0 * 15 = 0 from rfl] at hx227_6); (try rw [Addr.add_zero'] at hx227_6); (try rw [show ((0 : Int)).toNat = 0 from rfl] at hx227_7); (try rw [show 0 * 15 = 0 from rfl] at hx227_7); (try rw [Addr.add_zero'] at hx227_7); (try rw [show ((0 : Int)).toNat = 0 from rfl] at hx227_8); (try rw [show 0 * 15 = 0 from rfl] at hx227_8); (try rw [Addr.add_zero'] at hx227_8); (try rw [show ((0 : Int)).toNat = 0 from rfl] at hx227_9); (try rw [show 0 * 15 = 0 from rfl] at hx227_9); (try rw [Addr.add_zero'] at hx227_9); (try rw [show ((0 : Int)).toNat = 0 from rfl] at hx227_10); (try rw [show 0 * 15 = 0 from rfl] at hx227_10); (try rw [Addr.add_zero'] at hx227_10); (try rw [show ((0 : Int)).toNat = 0 from rfl] at hx227_11); (try rw [show 0 * 15 = 0 from rfl] at hx227_11); (try rw [Addr.add_zero'] at hx227_11); (try rw [show ((0 : Int)).toNat = 0 from rfl] at hx227_12); (try rw [show 0 * 15 = 0 from rfl] at hx227_12); (try rw [Addr.add_zero'] at hx227_12); (try rw [show ((0 : Int)).toNat = 0 from rfl] at hx227_13); (try rw [show 0 * 15 = 0 from rfl] at hx227_13); (try rw [Addr.add_zero'] at hx227_13); (try rw [show ((0 : Int)).toNat = 0 from rfl] at hx227_14); (try rw [show 0 * 15 = 0 from rfl] at hx227_14); (try rw [Addr.add_zero'] at hx227_14); replace p227 := eq_true p227; replace q227 := eq_true q227; have p228 : 0 ≤ (1 : Int) := (by omega); have q228 : 1 < (t222.length : Int) := of_decide_eq_true qA; obtain ⟨ad228, e228, hx228_0, hx228_1, hx228_2, hx228_3, hx228_4, hx228_5, hx228_6, hx228_7, hx228_8, hx228_9, hx228_10, hx228_11, hx228_12, hx228_13, hx228_14⟩ := at_T38 (Kd.R_reads' HO224.out).2.2 1 p228 q228; obtain rfl : ad226 = ad228 := (by injection e228); (try simp only [show (1 : Int).toNat = 1 from rfl, Nat.reduceMul, Nat.reduceEqDiff, Go.Addr.add, ↓reduceIte] at hx228_0); (try simp only [show (1 : Int).toNat = 1 from rfl, Nat.reduceMul, Nat.reduceEqDiff, Go.Addr.add, ↓reduceIte] at hx228_1); (try simp only [show (1 : Int).toNat = 1 from rfl, Nat.reduceMul, Nat.reduceEqDiff, Go.Addr.add, ↓reduceIte] at hx228_2); (try simp only [show (1 : Int).toNat = 1 from rfl, Nat.reduceMul, Nat.reduceEqDiff, Go.Addr.add, ↓reduceIte] at hx228_3); (try simp only [show (1 : Int).toNat = 1 from rfl, Nat.reduceMul, Nat.reduceEqDiff, Go.Addr.add, ↓reduceIte] at hx228_4); (try simp only [show (1 : Int).toNat = 1 from rfl, Nat.reduceMul, Nat.reduceEqDiff, Go.Addr.add, ↓reduceIte] at hx228_5); (try simp only [show (1 : Int).toNat = 1 from rfl, Nat.reduceMul, Nat.reduceEqDiff, Go.Addr.add, ↓reduceIte] at hx228_6); (try simp only [show (1 : Int).toNat = 1 from rfl, Nat.reduceMul, Nat.reduceEqDiff, Go.Addr.add, ↓reduceIte] at hx228_7); (try simp only [show (1 : Int).toNat = 1 from rfl, Nat.reduceMul, Nat.reduceEqDiff, Go.Addr.add, ↓reduceIte] at hx228_8); (try simp only [show (1 : Int).toNat = 1 from rfl, Nat.reduceMul, Nat.reduceEqDiff, Go.Addr.add, ↓reduceIte] at hx228_9); (try simp only [show (1 : Int).toNat = 1 from rfl, Nat.reduceMul, Nat.reduceEqDiff, Go.Addr.add, ↓reduceIte] at hx228_10); (try simp only [show (1 : Int).toNat = 1 from rfl, Nat.reduceMul, Nat.reduceEqDiff, Go.Addr.add, ↓reduceIte] at hx228_11); (try simp only [show (1 : Int).toNat = 1 from rfl, Nat.reduceMul, Nat.reduceEqDiff, Go.Addr.add, ↓reduceIte] at hx228_12); (try simp only [show (1 : Int).toNat = 1 from rfl, Nat.reduceMul, Nat.reduceEqDiff, Go.Addr.add, ↓reduceIte] at hx228_13); (try simp only [show (1 : Int).toNat = 1 from rfl, Nat.reduceMul, Nat.reduceEqDiff, Go.Addr.add, ↓reduceIte] at hx228_14); have qi228 : (1 < t222.length) = True := eq_true (by omega); (try rw [show ((1 : Int)).toNat = 1 from rfl] at hx228_0); (try rw [show 1 * 15 = 15 from rfl] at hx228_0); (try rw [show ((1 : Int)).toNat = 1 from rfl] at hx228_1); (try rw [show 1 * 15 = 15 from rfl] at hx228_1); (try rw [show ((1 : Int)).toNat = 1 from rfl] at hx228_2); (try rw [show 1 * 15 = 15 from rfl] at hx228_2); (try rw [show ((1 : Int)).toNat = 1 from rfl] at hx228_3); (try rw [show 1 * 15 = 15 from rfl] at hx228_3); (try rw [show ((1 : Int)).toNat = 1 from rfl] at hx228_4); (try rw [show 1 * 15 = 15 from rfl] at hx228_4); (try rw [show ((1 : Int)).toNat = 1 from rfl] at hx228_5); (try rw [show 1 * 15 = 15 from rfl] at hx228_5); (try rw [show ((1 : Int)).toNat = 1 from rfl] at hx228_6); (try rw [show 1 * 15 = 15 from rfl] at hx228_6); (try rw [show ((1 : Int)).toNat = 1 from rfl] at hx228_7); (try rw [show 1 * 15 = 15 from rfl] at hx228_7); (try rw [show ((1 : Int)).toNat = 1 from rfl] at hx228_8); (try rw [show 1 * 15 = 15 from rfl] at hx228_8); (try rw [show ((1 : Int)).toNat = 1 from rfl] at hx228_9); (try rw [show 1 * 15 = 15 from rfl] at hx228_9); (try rw [show ((1 : Int)).toNat = 1 from rfl] at hx228_10); (try rw [show 1 * 15 = 15 from rfl] at hx228_10); (try rw [show ((1 : Int)).toNat = 1 from rfl] at hx228_11); (try rw [show 1 * 15 = 15 from rfl] at hx228_11); (try rw [show ((1 : Int)).toNat = 1 from rfl] at hx228_12); (try rw [show 1 * 15 = 15 from rfl] at hx228_12); (try rw [show ((1 : Int)).toNat = 1 from rfl] at hx228_13); (try rw [show 1 * 15 = 15 from rfl] at hx228_13); (try rw [show ((1 : Int)).toNat = 1 from rfl] at hx228_14); (try rw [show 1 * 15 = 15 from rfl] at hx228_14); replace p228 := eq_true p228; replace q228 := eq_true q228))
                          go_ret
                          exact ⟨by first | rfl | (simp [errW_none, errW_some] <;> rfl) | (simp [*, errW_none, errW_some] <;> rfl), by repeat (first | (with_reducible first | exact HB.out | apply below_alloc | apply pw_below_drewN | apply below_drew1) | exact HB.out)⟩
                        · rw [if_neg c21] at H
                          exact absurd H (by simp)
                      · rw [if_neg c20] at H
                        have c20b0 : (((rd_T38 t222 0).f0) == a2) = false := beq_eq_false_iff_ne.mpr c20
                        have c20b1 : (((rd_T38 t222 0).f0) != a2) = true := bne_iff_ne.mpr c20
                        exact absurd (Option.some.inj H) (by rw [HRT.out]; decide)
                    · rw [if_neg c19] at H
                      have c19b0 : (((rd_T38 t222 0).f1) == 0) = false := beq_eq_false_iff_ne.mpr c19
                      have c19b1 : (((rd_T38 t222 0).f1) != 0) = true := bne_iff_ne.mpr c19
                      exact absurd (Option.some.inj H) (by rw [HRT.out]; decide)
                  · rw [if_neg c18] at H
                    exact absurd H (by simp)
                · replace c17 := Bool.eq_false_iff.mpr c17
                  subst c17
                  have H1 : (some false) = some r := by rw [if_neg (show ¬ (false = true) by decide)] at H; exact H
                  clear H
                  have H := H1
                  clear H1
                  exact absurd (Option.some.inj H) (by rw [HRT.out]; decide)
              · rw [if_neg c15] at H
                exact absurd H (by simp)
            · rw [if_neg c14] at H
              exact absurd H (by simp)
          · rw [if_neg c11] at H
            exact absurd H (by simp)
        · rw [if_neg c10] at H
          exact absurd H (by simp)

/-- THE ONE PURE STATEMENT of laws_FnLineSet: yours. -/
def laws_FnLineSet.Pure : Prop := ∀ (a0 : Int) (a1 : Int) (a2 : Int), (Lit.int .i64 a0).wf = true → (Lit.int .u64 a1).wf = true → (Lit.int .u64 a2).wf = true → ∃ k, laws_FnLineSet.f k a0 a1 a2 = some true
theorem laws_FnLineSet.walk (P : laws_FnLineSet.Pure) (a0 : Int) (a1 : Int) (a2 : Int) (w : World) (w0 : (Lit.int .i64 a0).wf = true) (w1 : (Lit.int .u64 a1).wf = true) (w2 : (Lit.int .u64 a2).wf = true) (hG : Glob w) :
    Calls Tryd.prog 10 #[.int .i64 a0, .int .u64 a1, .int .u64 a2] w fun e w' => e = .returned (.bool true) ∧ Below w.heap.size w w' := by
  obtain ⟨k, h⟩ := P a0 a1 a2 w0 w1 w2
  refine (laws_FnLineSet.calls k a0 a1 a2 true w h hG rfl).mono ?_
  rintro e w' ⟨rfl, hd⟩
  exact ⟨rfl, hd⟩
end Go.Proofs.YtnooghnbohjmlaaDoor.PPl
