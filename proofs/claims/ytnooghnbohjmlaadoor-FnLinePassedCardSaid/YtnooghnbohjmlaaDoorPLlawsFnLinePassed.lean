-- Printed by a program of this session (mkprint.py over the kit's print.py)
import Derived.Test.YtnooghnbohjmlaaDoorMa
import Derived.Test.YtnooghnbohjmlaaDoorMc
namespace Go.Proofs.YtnooghnbohjmlaaDoor.PPl
open Go.RowKit Go.Proofs.YtnooghnbohjmlaaDoorW.PrintWords Go.Proofs.YtnooghnbohjmlaaDoorW.PrintLast Go.Proofs.YtnooghnbohjmlaaDoorW.PrintMore
attribute [local go_sem] max2_int max_two   -- for this text's walks alone
set_option linter.unusedVariables false
set_option linter.unusedSimpArgs false

/-! ### laws_FnLinePassed: function 9 -/
def laws_FnLinePassed.j0 : Nat → Int → List Int → Int → Bool → Option (Bool)
  | 0, _, _, _, _ => none
  | k + 1, x0, x1, x2, x27 => if x27 = true then (some true) else ((some (([0] : List Int) : List Int)).bind fun y291 => ((spec_Unsigned.f k (IntKind.u64.wrap (wrap64 ((x1.length : Int) + 1))) 0).bind fun t294 => (if y291.length + t294.length < 140737488355328 then ((some (y291 ++ t294 : List Int)).bind fun y297 => (if y297.length < 140737488355328 then ((some (y297 ++ [(x0) % 256] : List Int)).bind fun y300 => ((laws_usual.f).bind fun bt303 => (if y300.length + x1.length < 140737488355328 then ((some (y300 ++ x1 : List Int)).bind fun y308 => (if y308.length < 140737488355328 then ((laws_rowsOf.f k bt303.1 bt303.2.1 bt303.2.2.1 bt303.2.2.2.1 bt303.2.2.2.2 x2 (y308 ++ [1]) 2).bind fun bt314 => (if bt314.2 = true then (if 0 < (bt314.1.length : Int) then (if ((rd_T38 bt314.1 0).f0) = x2 then (if ((rd_T38 bt314.1 0).f3) = 1 then (if ((rd_T38 bt314.1 0).f4) = 0 then (some (((rd_T38 bt314.1 0).f10) == 0)) else (some false)) else (some false)) else (some false)) else (none)) else (some false))) else (none))) else (none)))) else (none))) else (none))))
def laws_FnLinePassed.f (k : Nat) (a0 : Int) (l1 : List Int) (a2 : Int) : Option (Bool) := if (l1.length : Int) > 2147483647 then (some true) else (if a0 < 5 then (laws_FnLinePassed.j0 k a0 l1 a2 true) else (if a0 > 255 then (laws_FnLinePassed.j0 k a0 l1 a2 true) else (if (l1.length : Int) > 65536 then (laws_FnLinePassed.j0 k a0 l1 a2 true) else (laws_FnLinePassed.j0 k a0 l1 a2 (decide (a2 > 4611686018427387904))))))
theorem laws_FnLinePassed.mono_l : ∀ k, (∀ y0 y1 y2 y3, LeO (laws_FnLinePassed.j0 k y0 y1 y2 y3) (laws_FnLinePassed.j0 (k + 1) y0 y1 y2 y3))
  | 0 => fun _ _ _ _ r h => by simp [laws_FnLinePassed.j0] at h
  | k + 1 => by
    have ih0 := laws_FnLinePassed.mono_l k
    · intro y0 y1 y2 y3
      unfold laws_FnLinePassed.j0
      repeat' first
      | (with_reducible exact ih0 _ _ _ _)
      | (with_reducible exact laws_rowsOf.mono _ _ _ _ _ _ _ _ _)
      | (with_reducible exact spec_Unsigned.mono _ _ _)
      | (with_reducible exact LeO.refl _)
      | (with_reducible exact LeO.none _)
      | (with_reducible refine LeO.ite ?_ ?_)
      | (with_reducible refine LeO.bind ?_ (fun _ => ?_))
      | exact ih0 _ _ _ _
      | exact laws_rowsOf.mono _ _ _ _ _ _ _ _ _
      | exact spec_Unsigned.mono _ _ _
      | exact LeO.none _
      | refine LeO.ite ?_ ?_
      | refine LeO.bind ?_ (fun _ => ?_)
theorem laws_FnLinePassed.mono : ∀ a0 a1 a2 k, LeO (laws_FnLinePassed.f k a0 a1 a2) (laws_FnLinePassed.f (k + 1) a0 a1 a2) := by
  intro a0 a1 a2 k
  have ih0 := laws_FnLinePassed.mono_l k
  unfold laws_FnLinePassed.f
  repeat' first
      | (with_reducible exact ih0 _ _ _ _)
      | (with_reducible exact laws_rowsOf.mono _ _ _ _ _ _ _ _ _)
      | (with_reducible exact spec_Unsigned.mono _ _ _)
      | (with_reducible exact LeO.refl _)
      | (with_reducible exact LeO.none _)
      | (with_reducible refine LeO.ite ?_ ?_)
      | (with_reducible refine LeO.bind ?_ (fun _ => ?_))
      | exact ih0 _ _ _ _
      | exact laws_rowsOf.mono _ _ _ _ _ _ _ _ _
      | exact spec_Unsigned.mono _ _ _
      | exact LeO.none _
      | refine LeO.ite ?_ ?_
      | refine LeO.bind ?_ (fun _ => ?_)
set_option maxHeartbeats 8000000 in
set_option maxRecDepth 100000 in
theorem laws_FnLinePassed.calls (k : Nat) (a0 : Int) (A1 : Option Addr) (c1 : Nat) (l1 : List Int) (a2 : Int) (r : Bool) (w : World) (hr1 : Kd.C (Kd.int .u8) w A1 l1.length l1) (hc1 : l1.length ≤ c1) (h : laws_FnLinePassed.f k a0 l1 a2 = some r) (hG : Glob w) (hrt : r = true) :
    Calls Tryd.prog 9 #[.int .i64 a0, .slice A1 l1.length c1, .int .u64 a2] w fun e w' => e = .returned (.bool r) ∧ Below w.heap.size w w' := by
  have HGL := Aside0.mk hG
  clear hG
  have HRT := Aside0.mk hrt
  clear hrt
  have HR1 := Aside0.mk hr1
  have HC1 := Aside0.mk hc1
  clear hr1 hc1
  have HB := Aside0.mk (Below.refl w.heap.size w)
  have H : (if (l1.length : Int) > 2147483647 then (some true) else (if a0 < 5 then (laws_FnLinePassed.j0 k a0 l1 a2 true) else (if a0 > 255 then (laws_FnLinePassed.j0 k a0 l1 a2 true) else (if (l1.length : Int) > 65536 then (laws_FnLinePassed.j0 k a0 l1 a2 true) else (laws_FnLinePassed.j0 k a0 l1 a2 (decide (a2 > 4611686018427387904))))))) = some r := h
  clear h
  by_cases c4 : (l1.length : Int) > 2147483647
  · rw [if_pos c4] at H
    have c4b0 : decide (2147483647 < (l1.length : Int)) = true := decide_eq_true c4
    have c4b1 : decide (2147483647 < l1.length) = true := decide_eq_true (by omega)
    clear c4
    obtain rfl := Option.some.inj H
    go_enter Tryd.func9, Tryd.ntmps9
    go_wp2
    go_ret
    exact ⟨by first | rfl | (simp [errW_none, errW_some] <;> rfl) | (simp [*, errW_none, errW_some] <;> rfl), by repeat (first | (with_reducible first | exact HB.out | apply below_alloc | apply pw_below_drewN | apply below_drew1) | exact HB.out)⟩
  · rw [if_neg c4] at H
    have c4b0 : decide (2147483647 < (l1.length : Int)) = false := decide_eq_false c4
    have c4b1 : decide (2147483647 < l1.length) = false := decide_eq_false (by omega)
    clear c4
    have HC5 := Aside0.mk H
    clear H
    go_enter Tryd.func9, Tryd.ntmps9
    go_upto_region 3 with (fail)
    go_cut [27] (fun v27 wc => ∃ (kq : Nat) (x27_4 : Bool), v27 = .bool x27_4 ∧ Aside0 (laws_FnLinePassed.j0 kq a0 l1 a2 x27_4 = some r) ∧ Aside0 (kq ≤ k) ∧ Aside0 (Below w.heap.size w wc))
    case first =>
      have H := HC5.out
      clear HC5
      by_cases c6 : a0 < 5
      · rw [if_pos c6] at H
        have c6b0 : decide (a0 < 5) = true := decide_eq_true c6
        clear c6
        (first | rw [c6b0] | (simp only [i64_w, i32_w]; rw [c6b0]) | skip)
        have H' := Aside0.mk H
        clear H
        go_wp2
        go_meet
        case rel => exact ⟨_, (true), (by first | rfl | (simp; done) | (simp [*]; done)), H', ⟨by first | omega | exact Nat.le_refl _⟩, ⟨by repeat (first | (with_reducible first | exact HB.out | apply below_alloc | apply pw_below_drewN | apply below_drew1) | exact HB.out)⟩⟩
      · rw [if_neg c6] at H
        have c6b0 : decide (a0 < 5) = false := decide_eq_false c6
        clear c6
        (first | rw [c6b0] | (simp only [i64_w, i32_w]; rw [c6b0]) | skip)
        by_cases c7 : a0 > 255
        · rw [if_pos c7] at H
          have c7b0 : decide (255 < a0) = true := decide_eq_true c7
          clear c7
          have H' := Aside0.mk H
          clear H
          go_wp2
          go_meet
          case rel => exact ⟨_, (true), (by first | rfl | (simp; done) | (simp [*]; done)), H', ⟨by first | omega | exact Nat.le_refl _⟩, ⟨by repeat (first | (with_reducible first | exact HB.out | apply below_alloc | apply pw_below_drewN | apply below_drew1) | exact HB.out)⟩⟩
        · rw [if_neg c7] at H
          have c7b0 : decide (255 < a0) = false := decide_eq_false c7
          clear c7
          by_cases c8 : (l1.length : Int) > 65536
          · rw [if_pos c8] at H
            have c8b0 : decide (65536 < (l1.length : Int)) = true := decide_eq_true c8
            have c8b1 : decide (65536 < l1.length) = true := decide_eq_true (by omega)
            clear c8
            have H' := Aside0.mk H
            clear H
            go_wp2
            go_meet
            case rel => exact ⟨_, (true), (by first | rfl | (simp; done) | (simp [*]; done)), H', ⟨by first | omega | exact Nat.le_refl _⟩, ⟨by repeat (first | (with_reducible first | exact HB.out | apply below_alloc | apply pw_below_drewN | apply below_drew1) | exact HB.out)⟩⟩
          · rw [if_neg c8] at H
            have c8b0 : decide (65536 < (l1.length : Int)) = false := decide_eq_false c8
            have c8b1 : decide (65536 < l1.length) = false := decide_eq_false (by omega)
            clear c8
            have H' := Aside0.mk H
            clear H
            go_wp2
            go_meet
            case rel => exact ⟨_, (decide (a2 > 4611686018427387904)), (by first | rfl | (simp; done) | (simp [*]; done)), H', ⟨by first | omega | exact Nat.le_refl _⟩, ⟨by repeat (first | (with_reducible first | exact HB.out | apply below_alloc | apply pw_below_drewN | apply below_drew1) | exact HB.out)⟩⟩
    case rest =>
      clear HC5
      try clear c1
      try clear p2
      try clear c4
      try clear c4b0
      try clear c4b1
      try clear c6
      try clear c6b0
      try clear c7
      try clear c7b0
      try clear c8
      try clear c8b0
      try clear c8b1
      obtain ⟨kq, x27_4, rfl, HA, HJ4, HB⟩ := hcut
      cases kq with
      | zero => exact absurd HA.out (by simp [laws_FnLinePassed.j0])
      | succ kj4 =>
        have H := HA.out
        clear HA
        simp only [laws_FnLinePassed.j0] at H
        by_cases c9 : x27_4 = true
        · subst c9
          have H1 : (some true) = some r := by rw [if_pos rfl] at H; exact H
          clear H
          have H := H1
          clear H1
          obtain rfl := Option.some.inj H
          go_wp2
          go_ret
          exact ⟨by first | rfl | (simp [errW_none, errW_some] <;> rfl) | (simp [*, errW_none, errW_some] <;> rfl), by repeat (first | (with_reducible first | exact HB.out | apply below_alloc | apply pw_below_drewN | apply below_drew1) | exact HB.out)⟩
        · replace c9 := Bool.eq_false_iff.mpr c9
          subst c9
          have H1 : ((some (([0] : List Int) : List Int)).bind fun y291 => ((spec_Unsigned.f kj4 (IntKind.u64.wrap (wrap64 ((l1.length : Int) + 1))) 0).bind fun t294 => (if y291.length + t294.length < 140737488355328 then ((some (y291 ++ t294 : List Int)).bind fun y297 => (if y297.length < 140737488355328 then ((some (y297 ++ [(a0) % 256] : List Int)).bind fun y300 => ((laws_usual.f).bind fun bt303 => (if y300.length + l1.length < 140737488355328 then ((some (y300 ++ l1 : List Int)).bind fun y308 => (if y308.length < 140737488355328 then ((laws_rowsOf.f kj4 bt303.1 bt303.2.1 bt303.2.2.1 bt303.2.2.2.1 bt303.2.2.2.2 a2 (y308 ++ [1]) 2).bind fun bt314 => (if bt314.2 = true then (if 0 < (bt314.1.length : Int) then (if ((rd_T38 bt314.1 0).f0) = a2 then (if ((rd_T38 bt314.1 0).f3) = 1 then (if ((rd_T38 bt314.1 0).f4) = 0 then (some (((rd_T38 bt314.1 0).f10) == 0)) else (some false)) else (some false)) else (some false)) else (none)) else (some false))) else (none))) else (none)))) else (none))) else (none)))) = some r := by rw [if_neg (show ¬ (false = true) by decide)] at H; exact H
          clear H
          have H := H1
          clear H1
          obtain ⟨y291, hy291⟩ : ∃ y_ : List Int, y_ = (([0] : List Int)) := ⟨_, rfl⟩
          replace H : ((spec_Unsigned.f kj4 (IntKind.u64.wrap (wrap64 ((l1.length : Int) + 1))) 0).bind fun t294 => (if y291.length + t294.length < 140737488355328 then ((some (y291 ++ t294 : List Int)).bind fun y297 => (if y297.length < 140737488355328 then ((some (y297 ++ [(a0) % 256] : List Int)).bind fun y300 => ((laws_usual.f).bind fun bt303 => (if y300.length + l1.length < 140737488355328 then ((some (y300 ++ l1 : List Int)).bind fun y308 => (if y308.length < 140737488355328 then ((laws_rowsOf.f kj4 bt303.1 bt303.2.1 bt303.2.2.1 bt303.2.2.2.1 bt303.2.2.2.2 a2 (y308 ++ [1]) 2).bind fun bt314 => (if bt314.2 = true then (if 0 < (bt314.1.length : Int) then (if ((rd_T38 bt314.1 0).f0) = a2 then (if ((rd_T38 bt314.1 0).f3) = 1 then (if ((rd_T38 bt314.1 0).f4) = 0 then (some (((rd_T38 bt314.1 0).f10) == 0)) else (some false)) else (some false)) else (some false)) else (none)) else (some false))) else (none))) else (none)))) else (none))) else (none))) = some r := by first | (rw [hy291]; with_reducible exact H) | (have H2_ := (Option.bind_some _ _).symm.trans H; rw [hy291]; with_reducible exact H2_) | (have H2_ := (Option.bind_some _ _).symm.trans H; with_reducible exact H2_) | with_reducible exact H | (rw [hy291]; exact H) | exact H
          have Ny291 := Aside0.mk hy291
          clear hy291
          replace H := Option.bind_eq_some_iff.mp H
          obtain ⟨t294, A100, H⟩ := H
          replace H : (if y291.length + t294.length < 140737488355328 then ((some (y291 ++ t294 : List Int)).bind fun y297 => (if y297.length < 140737488355328 then ((some (y297 ++ [(a0) % 256] : List Int)).bind fun y300 => ((laws_usual.f).bind fun bt303 => (if y300.length + l1.length < 140737488355328 then ((some (y300 ++ l1 : List Int)).bind fun y308 => (if y308.length < 140737488355328 then ((laws_rowsOf.f kj4 bt303.1 bt303.2.1 bt303.2.2.1 bt303.2.2.2.1 bt303.2.2.2.2 a2 (y308 ++ [1]) 2).bind fun bt314 => (if bt314.2 = true then (if 0 < (bt314.1.length : Int) then (if ((rd_T38 bt314.1 0).f0) = a2 then (if ((rd_T38 bt314.1 0).f3) = 1 then (if ((rd_T38 bt314.1 0).f4) = 0 then (some (((rd_T38 bt314.1 0).f10) == 0)) else (some false)) else (some false)) else (some false)) else (none)) else (some false))) else (none))) else (none)))) else (none))) else (none)) = some r := H
          have A10 := Aside0.mk A100
          clear A100
          by_cases c11 : y291.length + t294.length < 140737488355328
          · rw [if_pos c11] at H
            have LMc11 := Aside0.mk c11
            clear c11
            obtain ⟨y297, hy297⟩ : ∃ y_ : List Int, y_ = (y291 ++ t294) := ⟨_, rfl⟩
            replace H : (if y297.length < 140737488355328 then ((some (y297 ++ [(a0) % 256] : List Int)).bind fun y300 => ((laws_usual.f).bind fun bt303 => (if y300.length + l1.length < 140737488355328 then ((some (y300 ++ l1 : List Int)).bind fun y308 => (if y308.length < 140737488355328 then ((laws_rowsOf.f kj4 bt303.1 bt303.2.1 bt303.2.2.1 bt303.2.2.2.1 bt303.2.2.2.2 a2 (y308 ++ [1]) 2).bind fun bt314 => (if bt314.2 = true then (if 0 < (bt314.1.length : Int) then (if ((rd_T38 bt314.1 0).f0) = a2 then (if ((rd_T38 bt314.1 0).f3) = 1 then (if ((rd_T38 bt314.1 0).f4) = 0 then (some (((rd_T38 bt314.1 0).f10) == 0)) else (some false)) else (some false)) else (some false)) else (none)) else (some false))) else (none))) else (none)))) else (none)) = some r := by first | (rw [hy297]; with_reducible exact H) | (have H2_ := (Option.bind_some _ _).symm.trans H; rw [hy297]; with_reducible exact H2_) | (have H2_ := (Option.bind_some _ _).symm.trans H; with_reducible exact H2_) | with_reducible exact H | (rw [hy297]; exact H) | exact H
            have Ny297 := Aside0.mk hy297
            clear hy297
            by_cases c12 : y297.length < 140737488355328
            · rw [if_pos c12] at H
              have LMc12 := Aside0.mk c12
              clear c12
              obtain ⟨y300, hy300⟩ : ∃ y_ : List Int, y_ = (y297 ++ [(a0) % 256]) := ⟨_, rfl⟩
              replace H : ((laws_usual.f).bind fun bt303 => (if y300.length + l1.length < 140737488355328 then ((some (y300 ++ l1 : List Int)).bind fun y308 => (if y308.length < 140737488355328 then ((laws_rowsOf.f kj4 bt303.1 bt303.2.1 bt303.2.2.1 bt303.2.2.2.1 bt303.2.2.2.2 a2 (y308 ++ [1]) 2).bind fun bt314 => (if bt314.2 = true then (if 0 < (bt314.1.length : Int) then (if ((rd_T38 bt314.1 0).f0) = a2 then (if ((rd_T38 bt314.1 0).f3) = 1 then (if ((rd_T38 bt314.1 0).f4) = 0 then (some (((rd_T38 bt314.1 0).f10) == 0)) else (some false)) else (some false)) else (some false)) else (none)) else (some false))) else (none))) else (none))) = some r := by first | (rw [hy300]; with_reducible exact H) | (have H2_ := (Option.bind_some _ _).symm.trans H; rw [hy300]; with_reducible exact H2_) | (have H2_ := (Option.bind_some _ _).symm.trans H; with_reducible exact H2_) | with_reducible exact H | (rw [hy300]; exact H) | exact H
              have Ny300 := Aside0.mk hy300
              clear hy300
              replace H := Option.bind_eq_some_iff.mp H
              obtain ⟨⟨t303, t304, t305, t306, t307⟩, A130, H⟩ := H
              replace H : (if y300.length + l1.length < 140737488355328 then ((some (y300 ++ l1 : List Int)).bind fun y308 => (if y308.length < 140737488355328 then ((laws_rowsOf.f kj4 t303 t304 t305 t306 t307 a2 (y308 ++ [1]) 2).bind fun bt314 => (if bt314.2 = true then (if 0 < (bt314.1.length : Int) then (if ((rd_T38 bt314.1 0).f0) = a2 then (if ((rd_T38 bt314.1 0).f3) = 1 then (if ((rd_T38 bt314.1 0).f4) = 0 then (some (((rd_T38 bt314.1 0).f10) == 0)) else (some false)) else (some false)) else (some false)) else (none)) else (some false))) else (none))) else (none)) = some r := H
              have A13 := Aside0.mk A130
              clear A130
              by_cases c14 : y300.length + l1.length < 140737488355328
              · rw [if_pos c14] at H
                have LMc14 := Aside0.mk c14
                clear c14
                obtain ⟨y308, hy308⟩ : ∃ y_ : List Int, y_ = (y300 ++ l1) := ⟨_, rfl⟩
                replace H : (if y308.length < 140737488355328 then ((laws_rowsOf.f kj4 t303 t304 t305 t306 t307 a2 (y308 ++ [1]) 2).bind fun bt314 => (if bt314.2 = true then (if 0 < (bt314.1.length : Int) then (if ((rd_T38 bt314.1 0).f0) = a2 then (if ((rd_T38 bt314.1 0).f3) = 1 then (if ((rd_T38 bt314.1 0).f4) = 0 then (some (((rd_T38 bt314.1 0).f10) == 0)) else (some false)) else (some false)) else (some false)) else (none)) else (some false))) else (none)) = some r := by first | (rw [hy308]; with_reducible exact H) | (have H2_ := (Option.bind_some _ _).symm.trans H; rw [hy308]; with_reducible exact H2_) | (have H2_ := (Option.bind_some _ _).symm.trans H; with_reducible exact H2_) | with_reducible exact H | (rw [hy308]; exact H) | exact H
                have Ny308 := Aside0.mk hy308
                clear hy308
                by_cases c15 : y308.length < 140737488355328
                · rw [if_pos c15] at H
                  have LMc15 := Aside0.mk c15
                  clear c15
                  obtain ⟨y311, hy311⟩ : ∃ y_ : List Int, y_ = (y308 ++ [1]) := ⟨_, rfl⟩
                  replace H : ((laws_rowsOf.f kj4 t303 t304 t305 t306 t307 a2 y311 2).bind fun bt314 => (if bt314.2 = true then (if 0 < (bt314.1.length : Int) then (if ((rd_T38 bt314.1 0).f0) = a2 then (if ((rd_T38 bt314.1 0).f3) = 1 then (if ((rd_T38 bt314.1 0).f4) = 0 then (some (((rd_T38 bt314.1 0).f10) == 0)) else (some false)) else (some false)) else (some false)) else (none)) else (some false))) = some r := by first | (rw [hy311]; with_reducible exact H) | (have H2_ := (Option.bind_some _ _).symm.trans H; rw [hy311]; with_reducible exact H2_) | (have H2_ := (Option.bind_some _ _).symm.trans H; with_reducible exact H2_) | with_reducible exact H | (rw [hy311]; exact H) | exact H
                  have Ny311 := Aside0.mk hy311
                  clear hy311
                  replace H := Option.bind_eq_some_iff.mp H
                  obtain ⟨⟨t314, t317⟩, A160, H⟩ := H
                  replace H : (if t317 = true then (if 0 < (t314.length : Int) then (if ((rd_T38 t314 0).f0) = a2 then (if ((rd_T38 t314 0).f3) = 1 then (if ((rd_T38 t314 0).f4) = 0 then (some (((rd_T38 t314 0).f10) == 0)) else (some false)) else (some false)) else (some false)) else (none)) else (some false)) = some r := H
                  have A16 := Aside0.mk A160
                  clear A160
                  by_cases c17 : t317 = true
                  · subst c17
                    have H1 : (if 0 < (t314.length : Int) then (if ((rd_T38 t314 0).f0) = a2 then (if ((rd_T38 t314 0).f3) = 1 then (if ((rd_T38 t314 0).f4) = 0 then (some (((rd_T38 t314 0).f10) == 0)) else (some false)) else (some false)) else (some false)) else (none)) = some r := by rw [if_pos rfl] at H; exact H
                    clear H
                    have H := H1
                    clear H1
                    by_cases c18 : 0 < (t314.length : Int)
                    · rw [if_pos c18] at H
                      have c18b0 : decide (0 < (t314.length : Int)) = true := decide_eq_true c18
                      have c18b1 : decide (0 < t314.length) = true := decide_eq_true (by omega)
                      clear c18
                      by_cases c19 : ((rd_T38 t314 0).f0) = a2
                      · rw [if_pos c19] at H
                        have c19b0 : (((rd_T38 t314 0).f0) == a2) = true := beq_iff_eq.mpr c19
                        have c19b1 : (((rd_T38 t314 0).f0) != a2) = false := bne_eq_false_iff_eq.mpr c19
                        clear c19
                        by_cases c20 : ((rd_T38 t314 0).f3) = 1
                        · rw [if_pos c20] at H
                          have c20b0 : (((rd_T38 t314 0).f3) == 1) = true := beq_iff_eq.mpr c20
                          have c20b1 : (((rd_T38 t314 0).f3) != 1) = false := bne_eq_false_iff_eq.mpr c20
                          clear c20
                          by_cases c21 : ((rd_T38 t314 0).f4) = 0
                          · rw [if_pos c21] at H
                            have c21b0 : (((rd_T38 t314 0).f4) == 0) = true := beq_iff_eq.mpr c21
                            have c21b1 : (((rd_T38 t314 0).f4) != 0) = false := bne_eq_false_iff_eq.mpr c21
                            clear c21
                            obtain rfl := Option.some.inj H
                            go_wp2_with (first | ((with_reducible refine gate_dst (N := 28) rfl ?_); (try (refine gate_guard (by rfl) ?_; dsimp only)); refine Kd.R_lit (Kd.int .u8) _ 5 ?hg (N := 28) ?hd (xs := ([0] : List Int)) (inner := [.int .u8 0]) (ok := fun _ => True) (okp := fun _ => True) ?hr ?hp (fun _ hk => hk) trivial (Below.refl _ _) (Nat.le_refl _) (by simp) ?_; (case hd => rfl); (case hg => rfl); (case hr => first | (go_simp; done) | (go_simp; rfl)); (case hp => exact (Reps.one (show Kd.M (Kd.int .u8) _ _ _ 0 [.int .u8 0] from rfl) (Reps.none _ _))); intro v292 w22 ho23 hb hg_ hnew_; clear hg_ hnew_; (first | rw [← Ny291.out] at ho23 | (simp only [Int.reduceToNat] at ho23; rw [← Ny291.out] at ho23)); have n0_ := Aside0.mk (Kd.R_lower ho23 (below_size qB)); have n1_ := Aside0.mk (below_step qB hb); clear HB; have HO293 := n0_; have HB := n1_; clear n0_ n1_; clear hb ho23) | ((with_reducible refine gate_callee (f := 13) rfl ?_); refine goesL_ (some 33) rfl rfl Tryd.func13 (by kernel_rfl) rfl #[.int .u64 (IntKind.u64.wrap (wrap64 ((l1.length : Int) + 1))), .int .i64 0] rfl qL ?_; (with_reducible refine (spec_Unsigned.calls kj4 (IntKind.u64.wrap (wrap64 ((l1.length : Int) + 1))) 0 t294 _ A10.out).mono ?_); rintro e w24 ⟨v295, rfl, ho0, hb⟩; refine ⟨_, rfl, ?_⟩; have n0_ := Aside0.mk (Kd.R_elder' (qR HO293.out) (Kd.R_base ho0) hb); have n1_ := Aside0.mk (Kd.R_lower (Kd.R_new' ho0 (Kd.R_lt (qR HO293.out))) (below_size qB)); have n2_ := Aside0.mk (below_step qB hb); clear HO293; clear HB; have HO293 := n0_; have HO296 := n1_; have HB := n2_; clear n0_ n1_ n2_; (try clear hb); (try clear hb2); (try clear hk); (try clear hi); (try clear ho0); obtain ⟨Ao26, co26, eo26⟩ := Kd.R_slice HO296.out; subst eo26) | ((with_reducible refine gate_builtin (b := .append) (xs := #[.tmp 28, .tmp 33]) rfl ?_); (try (refine gate_guard (by rfl) ?_; dsimp only)); at_builtin; refine Kd.R_append_rows (Kd.int .u8) (w0 := w) w.heap.size rfl (.tmp 28) (.tmp 33) 23 5 (.int .u8 0) 1 rfl Tryd.underlying23 info5 rfl (by decide) (by omega) v292 y291 t294 _ _ _ (fun k_ => some k_ ≠ (.slice Ao26 t294.length co26 : Value).ownBlock) (fun _ => False) rfl rfl ?aO ?aR (fun _ _ h => h) (fun _ h => h.elim) ?aF ?aB ?aS ?aL ?_; (case aR => exact qC (Kd.R_reads' HO296.out).2.2); (case aB => exact qB); (case aF => exact (fun k_ hk => Kd.fresh' (Kd.R_lt (qR HO296.out)) k_ hk)); (case aO => exact (by (with_reducible repeat (first | apply Kd.R_alloc | apply Kd.R_drewN | apply Kd.R_drew)); exact Kd.R_mono HO293.out (fun _ hk => hk.2))); (case aS => exact (below_size qB)); (case aL => have := LMc11.out; omega); intro v298 w25 ho hb hg hat; rw [← Ny297.out] at ho; have n0_ := Aside0.mk (Kd.R_after (ok := (fun _ => True)) (qR HO296.out) hg hat); have n1_ := Aside0.mk (hb); have n2_ := Aside0.mk (ho); clear HO296; clear HB; clear HO293; have HO296 := n0_; have HB := n1_; have HO299 := n2_; clear n0_ n1_ n2_; clear ho hb hg hat) | ((with_reducible refine gate_builtin (b := .append) (xs := #[.tmp 34, .tmp 37]) rfl ?_); (try (refine gate_guard (by rfl) ?_; dsimp only)); at_builtin; refine Kd.R_append (Kd.int .u8) (w0 := w) w.heap.size rfl (.tmp 34) (.tmp 37) 23 5 (.int .u8 0) 1 rfl Tryd.underlying23 info5 rfl (by decide) (by omega) v298 y297 ((a0) % 256) [.int .u8 ((a0) % 256)] (fun k_ => some k_ ≠ (.slice Ao26 t294.length co26 : Value).ownBlock) (fun _ => False) rfl rfl ?aP (fun _ hk => hk.elim) ?aF ?aO ?aB ?aS ?aL ?_; (case aP => exact rfl); (case aB => exact qB); (case aF => exact (fun k_ hk => Kd.fresh' (Kd.R_lt (qR HO296.out)) k_ hk)); (case aO => exact (qR HO299.out)); (case aS => exact (below_size qB)); (case aL => have := LMc12.out; omega); intro v301 w27 ho hb hg hat; rw [← Ny300.out] at ho; have n0_ := Aside0.mk (Kd.R_after (ok := (fun _ => True)) (qR HO296.out) hg hat); have n1_ := Aside0.mk (hb); have n2_ := Aside0.mk (ho); clear HO296; clear HB; clear HO299; have HO296 := n0_; have HB := n1_; have HO302 := n2_; clear n0_ n1_ n2_; clear ho hb hg hat) | ((with_reducible refine gate_callee (f := 16) rfl ?_); refine goesL_ (some 40) rfl rfl Tryd.func16 (by kernel_rfl) rfl #[] rfl qL ?_; (with_reducible refine (laws_usual.calls  t303 t304 t305 t306 t307 _ A13.out).mono ?_); rintro e w28 ⟨rfl, hb⟩; refine ⟨_, rfl, ?_⟩; have n0_ := Aside0.mk (Kd.R_below (qR HO296.out) hb); have n1_ := Aside0.mk (Kd.R_below (qR HO302.out) hb); have n2_ := Aside0.mk (below_step qB hb); clear HO296; clear HO302; clear HB; have HO296 := n0_; have HO302 := n1_; have HB := n2_; clear n0_ n1_ n2_; (try clear hb); (try clear hb2); (try clear hk); (try clear hi)) | ((with_reducible refine gate_builtin (b := .append) (xs := #[.tmp 42, .tmp 43]) rfl ?_); (try (refine gate_guard (by rfl) ?_; dsimp only)); at_builtin; refine Kd.R_append_rows (Kd.int .u8) (w0 := w) w.heap.size rfl (.tmp 42) (.tmp 43) 23 5 (.int .u8 0) 1 rfl Tryd.underlying23 info5 rfl (by decide) (by omega) v301 y300 l1 _ _ _ (fun k_ => some k_ ≠ (.slice Ao26 t294.length co26 : Value).ownBlock) (fun _ => False) rfl rfl ?aO ?aR (fun _ _ h => h) (fun _ h => h.elim) ?aF ?aB ?aS ?aL ?_; (case aR => exact qC (Kd.C_below HR1.out HB.out)); (case aB => exact qB); (case aF => exact (fun k_ hk => Kd.fresh' (Kd.R_lt (qR HO296.out)) k_ hk)); (case aO => exact (qR HO302.out)); (case aS => exact (below_size qB)); (case aL => have := LMc14.out; omega); intro v309 w29 ho hb hg hat; rw [← Ny308.out] at ho; have n0_ := Aside0.mk (Kd.R_after (ok := (fun _ => True)) (qR HO296.out) hg hat); have n1_ := Aside0.mk (hb); have n2_ := Aside0.mk (ho); clear HO296; clear HB; clear HO302; have HO296 := n0_; have HB := n1_; have HO310 := n2_; clear n0_ n1_ n2_; clear ho hb hg hat) | ((with_reducible refine gate_builtin (b := .append) (xs := #[.tmp 44, .tmp 45]) rfl ?_); (try (refine gate_guard (by rfl) ?_; dsimp only)); at_builtin; refine Kd.R_append (Kd.int .u8) (w0 := w) w.heap.size rfl (.tmp 44) (.tmp 45) 23 5 (.int .u8 0) 1 rfl Tryd.underlying23 info5 rfl (by decide) (by omega) v309 y308 1 [.int .u8 1] (fun k_ => some k_ ≠ (.slice Ao26 t294.length co26 : Value).ownBlock) (fun _ => False) rfl rfl ?aP (fun _ hk => hk.elim) ?aF ?aO ?aB ?aS ?aL ?_; (case aP => exact rfl); (case aB => exact qB); (case aF => exact (fun k_ hk => Kd.fresh' (Kd.R_lt (qR HO296.out)) k_ hk)); (case aO => exact (qR HO310.out)); (case aS => exact (below_size qB)); (case aL => have := LMc15.out; omega); intro v312 w30 ho hb hg hat; rw [← Ny311.out] at ho; have n0_ := Aside0.mk (Kd.R_after (ok := (fun _ => True)) (qR HO296.out) hg hat); have n1_ := Aside0.mk (hb); have n2_ := Aside0.mk (ho); clear HO296; clear HB; clear HO310; have HO296 := n0_; have HB := n1_; have HO313 := n2_; clear n0_ n1_ n2_; clear ho hb hg hat; obtain ⟨Ao31, co31, eo31⟩ := Kd.R_slice HO313.out; subst eo31) | ((with_reducible refine gate_callee (f := 19) rfl ?_); refine goesL_ (some 47) rfl rfl Tryd.func19 (by kernel_rfl) rfl #[.agg #[.int .i64 t303, .int .i64 t304, .int .i64 t305, .int .i64 t306, .int .i64 t307], .int .u64 a2, .slice Ao31 y311.length co31, .int .i64 2] rfl qL ?_; (with_reducible refine (laws_rowsOf.calls kj4 t303 t304 t305 t306 t307 a2 _ _ y311 2 t314 true _ ?side1 ?side2 A16.out ?sideG).mono ?_); (case sideG => exact HGL.out.below qB); (case side1 => exact qC (Kd.R_reads' HO313.out).2.2); (case side2 => exact (Kd.R_reads' HO313.out).2.1); rintro e w32 ⟨v315, rfl, ho0, hb⟩; refine ⟨_, rfl, ?_⟩; have n0_ := Aside0.mk (Kd.R_below (qR HO296.out) hb); have n1_ := Aside0.mk (Kd.R_below (qR HO313.out) hb); have n2_ := Aside0.mk (Kd.R_lower ho0 (below_size qB)); have n3_ := Aside0.mk (below_step qB hb); clear HO296; clear HO313; clear HB; have HO296 := n0_; have HO313 := n1_; have HO316 := n2_; have HB := n3_; clear n0_ n1_ n2_ n3_; (try clear hb); (try clear hb2); (try clear hk); (try clear hi); (try clear ho0); obtain ⟨Ao33, co33, eo33⟩ := Kd.R_slice HO316.out; subst eo33; have p318 : 0 ≤ (0 : Int) := (by omega); have q318 : 0 < (t314.length : Int) := of_decide_eq_true qA; obtain ⟨ad318, e318, hx318_0, hx318_1, hx318_2, hx318_3, hx318_4, hx318_5, hx318_6, hx318_7, hx318_8, hx318_9, hx318_10, hx318_11, hx318_12, hx318_13, hx318_14⟩ := at_T38 (Kd.R_reads' HO316.out).2.2 0 p318 q318; cases e318; have qi318 : (0 < t314.length) = True := eq_true (by omega); (try rw [show ((0 : Int)).toNat = 0 from rfl] at hx318_0); (try rw [show 0 * 15 = 0 from rfl] at hx318_0); (try rw [Addr.add_zero'] at hx318_0); (try rw [show ((0 : Int)).toNat = 0 from rfl] at hx318_1); (try rw [show 0 * 15 = 0 from rfl] at hx318_1); (try rw [Addr.add_zero'] at hx318_1); (try rw [show ((0 : Int)).toNat = 0 from rfl] at hx318_2); (try rw [show 0 * 15 = 0 from rfl] at hx318_2); (try rw [Addr.add_zero'] at hx318_2); (try rw [show ((0 : Int)).toNat = 0 from rfl] at hx318_3); (try rw [show 0 * 15 = 0 from rfl] at hx318_3); (try rw [Addr.add_zero'] at hx318_3); (try rw [show ((0 : Int)).toNat = 0 from rfl] at hx318_4); (try rw [show 0 * 15 = 0 from rfl] at hx318_4); (try rw [Addr.add_zero'] at hx318_4); (try rw [show ((0 : Int)).toNat = 0 from rfl] at hx318_5); (try rw [show 0 * 15 = 0 from rfl] at hx318_5); (try rw [Addr.add_zero'] at hx318_5); (try rw [show ((0 : Int)).toNat = 0 from rfl] at hx318_6); (try rw [show 0 * 15 = 0 from rfl] at hx318_6); (try rw [Addr.add_zero'] at hx318_6); (try rw [show ((0 : Int)).toNat = 0 from rfl] at hx318_7); (try rw [show 0 * 15 = 0 from rfl] at hx318_7); (try rw [Addr.add_zero'] at hx318_7); (try rw [show ((0 : Int)).toNat = 0 from rfl] at hx318_8); (try rw [show 0 * 15 = 0 from rfl] at hx318_8); (try rw [Addr.add_zero'] at hx318_8); (try rw [show ((0 : Int)).toNat = 0 from rfl] at hx318_9); (try rw [show 0 * 15 = 0 from rfl] at hx318_9); (try rw [Addr.add_zero'] at hx318_9); (try rw [show ((0 : Int)).toNat = 0 from rfl] at hx318_10); (try rw [show 0 * 15 = 0 from rfl] at hx318_10); (try rw [Addr.add_zero'] at hx318_10); (try rw [show ((0 : Int)).toNat = 0 from rfl] at hx318_11); (try rw [show 0 * 15 = 0 from rfl] at hx318_11); (try rw [Addr.add_zero'] at hx318_11); (try rw [show ((0 : Int)).toNat = 0 from rfl] at hx318_12); (try rw [show 0 * 15 = 0 from rfl] at hx318_12); (try rw [Addr.add_zero'] at hx318_12); (try rw [show ((0 : Int)).toNat = 0 from rfl] at hx318_13); (try rw [show 0 * 15 = 0 from rfl] at hx318_13); (try rw [Addr.add_zero'] at hx318_13); (try rw [show ((0 : Int)).toNat = 0 from rfl] at hx318_14); (try rw [show 0 * 15 = 0 from rfl] at hx318_14); (try rw [Addr.add_zero'] at hx318_14); replace p318 := eq_true p318; replace q318 := eq_true q318; have p319 : 0 ≤ (0 : Int) := (by omega); have q319 : 0 < (t314.length : Int) := of_decide_eq_true qA; obtain ⟨ad319, e319, hx319_0, hx319_1, hx319_2, hx319_3, hx319_4, hx319_5, hx319_6, hx319_7, hx319_8, hx319_9, hx319_10, hx319_11, hx319_12, hx319_13, hx319_14⟩ := at_T38 (Kd.R_reads' HO316.out).2.2 0 p319 q319; obtain rfl : ad318 = ad319 := (by injection e319); have qi319 : (0 < t314.length) = True := eq_true (by omega); (try rw [show ((0 : Int)).toNat = 0 from rfl] at hx319_0); (try rw [show 0 * 15 = 0 from rfl] at hx319_0); (try rw [Addr.add_zero'] at hx319_0); (try rw [show ((0 : Int)).toNat = 0 from rfl] at hx319_1); (try rw [show 0 * 15 = 0 from rfl] at hx319_1); (try rw [Addr.add_zero'] at hx319_1); (try rw [show ((0 : Int)).toNat = 0 from rfl] at hx319_2); (try rw [show 0 * 15 = 0 from rfl] at hx319_2); (try rw [Addr.add_zero'] at hx319_2); (try rw [show ((0 : Int)).toNat = 0 from rfl] at hx319_3); (try rw [show 0 * 15 = 0 from rfl] at hx319_3); (try rw [Addr.add_zero'] at hx319_3); (try rw [show ((0 : Int)).toNat = 0 from rfl] at hx319_4); (try rw [show 0 * 15 = 0 from rfl] at hx319_4); (try rw [Addr.add_zero'] at hx319_4); (try rw [show ((0 : Int)).toNat = 0 from rfl] at hx319_5); (try rw [show 0 * 15 = 0 from rfl] at hx319_5); (try rw [Addr.add_zero'] at hx319_5); (try rw [show ((0 : Int)).toNat = 0 from rfl] at hx319_6); (try rw [show 0 * 15 = 0 from rfl] at hx319_6); (try rw [Addr.add_zero'] at hx319_6); (try rw [show ((0 : Int)).toNat = 0 from rfl] at hx319_7); (try rw [show 0 * 15 = 0 from rfl] at hx319_7); (try rw [Addr.add_zero'] at hx319_7); (try rw [show ((0 : Int)).toNat = 0 from rfl] at hx319_8); (try rw [show 0 * 15 = 0 from rfl] at hx319_8); (try rw [Addr.add_zero'] at hx319_8); (try rw [show ((0 : Int)).toNat = 0 from rfl] at hx319_9); (try rw [show 0 * 15 = 0 from rfl] at hx319_9); (try rw [Addr.add_zero'] at hx319_9); (try rw [show ((0 : Int)).toNat = 0 from rfl] at hx319_10); (try rw [show 0 * 15 = 0 from rfl] at hx319_10); (try rw [Addr.add_zero'] at hx319_10); (try rw [show ((0 : Int)).toNat = 0 from rfl] at hx319_11); (try rw [show 0 * 15 = 0 from rfl] at hx319_11); (try rw [Addr.add_zero'] at hx319_11); (try rw [show ((0 : Int)).toNat = 0 from rfl] at hx319_12); (try rw [show 0 * 15 = 0 from rfl] at hx319_12); (try rw [Addr.add_zero'] at hx319_12); (try rw [show ((0 : Int)).toNat = 0 from rfl] at hx319_13); (try rw [show 0 * 15 = 0 from rfl] at hx319_13); (try rw [Addr.add_zero'] at hx319_13); (try rw [show ((0 : Int)).toNat = 0 from rfl] at hx319_14); (try rw [show 0 * 15 = 0 from rfl] at hx319_14); (try rw [Addr.add_zero'] at hx319_14); replace p319 := eq_true p319; replace q319 := eq_true q319; have p320 : 0 ≤ (0 : Int) := (by omega); have q320 : 0 < (t314.length : Int) := of_decide_eq_true qA; obtain ⟨ad320, e320, hx320_0, hx320_1, hx320_2, hx320_3, hx320_4, hx320_5, hx320_6, hx320_7, hx320_8, hx320_9, hx320_10, hx320_11, hx320_12, hx320_13, hx320_14⟩ := at_T38 (Kd.R_reads' HO316.out).2.2 0 p320 q320; obtain rfl : ad318 = ad320 := (by injection e320); have qi320 : (0 < t314.length) = True := eq_true (by omega); (try rw [show ((0 : Int)).toNat = 0 from rfl] at hx320_0); (try rw [show 0 * 15 = 0 from rfl] at hx320_0); (try rw [Addr.add_zero'] at hx320_0); (try rw [show ((0 : Int)).toNat = 0 from rfl] at hx320_1); (try rw [show 0 * 15 = 0 from rfl] at hx320_1); (try rw [Addr.add_zero'] at hx320_1); (try rw [show ((0 : Int)).toNat = 0 from rfl] at hx320_2); (try rw [show 0 * 15 = 0 from rfl] at hx320_2); (try rw [Addr.add_zero'] at hx320_2); (try rw [show ((0 : Int)).toNat = 0 from rfl] at hx320_3); (try rw [show 0 * 15 = 0 from rfl] at hx320_3); (try rw [Addr.add_zero'] at hx320_3); (try rw [show ((0 : Int)).toNat = 0 from rfl] at hx320_4); (try rw [show 0 * 15 = 0 from rfl] at hx320_4); (try rw [Addr.add_zero'] at hx320_4); (try rw [show ((0 : Int)).toNat = 0 from rfl] at hx320_5); (try rw [show 0 * 15 = 0 from rfl] at hx320_5); (try rw [Addr.add_zero'] at hx320_5); (try rw [show ((0 : Int)).toNat = 0 from rfl] at hx320_6); (try rw [show 0 * 15 = 0 from rfl] at hx320_6); (try rw [Addr.add_zero'] at hx320_6); (try rw [show ((0 : Int)).toNat = 0 from rfl] at hx320_7); (try rw [show 0 * 15 = 0 from rfl] at hx320_7); (try rw [Addr.add_zero'] at hx320_7); (try rw [show ((0 : Int)).toNat = 0 from rfl] at hx320_8); (try rw [show 0 * 15 = 0 from rfl] at hx320_8); (try rw [Addr.add_zero'] at hx320_8); (try rw [show ((0 : Int)).toNat = 0 from rfl] at hx320_9); (try rw [show 0 * 15 = 0 from rfl] at hx320_9); (try rw [Addr.add_zero'] at hx320_9); (try rw [show ((0 : Int)).toNat = 0 from rfl] at hx320_10); (try rw [show 0 * 15 = 0 from rfl] at hx320_10); (try rw [Addr.add_zero'] at hx320_10); (try rw [show ((0 : Int)).toNat = 0 from rfl] at hx320_11); (try rw [show 0 * 15 = 0 from rfl] at hx320_11); (try rw [Addr.add_zero'] at hx320_11); (try rw [show ((0 : Int)).toNat = 0 from rfl] at hx320_12); (try rw [show 0 * 15 = 0 from rfl] at hx320_12); (try rw [Addr.add_zero'] at hx320_12); (try rw [show ((0 : Int)).toNat = 0 from rfl] at hx320_13); (try rw [show 0 * 15 = 0 from rfl] at hx320_13); (try rw [Addr.add_zero'] at hx320_13); (try rw [show ((0 : Int)).toNat = 0 from rfl] at hx320_14); (try rw [show 0 * 15 = 0 from rfl] at hx320_14); (try rw [Addr.add_zero'] at hx320_14); replace p320 := eq_true p320; replace q320 := eq_true q320; have p321 : 0 ≤ (0 : Int) := (by omega); have q321 : 0 < (t314.length : Int) := of_decide_eq_true qA; obtain ⟨ad321, e321, hx321_0, hx321_1, hx321_2, hx321_3, hx321_4, hx321_5, hx321_6, hx321_7, hx321_8, hx321_9, hx321_10, hx321_11, hx321_12, hx321_13, hx321_14⟩ := at_T38 (Kd.R_reads' HO316.out).2.2 0 p321 q321; obtain rfl : ad318 = ad321 := (by injection e321); have qi321 : (0 < t314.length) = True := eq_true (by omega); (try rw [show ((0 : Int)).toNat = 0 from rfl] at hx321_0); (try rw [show 0 * 15 = 0 from rfl] at hx321_0); (try rw [Addr.add_zero'] at hx321_0); (try rw [show ((0 : Int)).toNat = 0 from rfl] at hx321_1); (try rw [show 0 * 15 = 0 from rfl] at hx321_1); (try rw [Addr.add_zero'] at hx321_1); (try rw [show ((0 : Int)).toNat = 0 from rfl] at hx321_2); (try rw [show 0 * 15 = 0 from rfl] at hx321_2); (try rw [Addr.add_zero'] at hx321_2); (try rw [show ((0 : Int)).toNat = 0 from rfl] at hx321_3); (try rw [show 0 * 15 = 0 from rfl] at hx321_3); (try rw [Addr.add_zero'] at hx321_3); (try rw [show ((0 : Int)).toNat = 0 from rfl] at hx321_4); (try rw [show 0 * 15 = 0 from rfl] at hx321_4); (try rw [Addr.add_zero'] at hx321_4); (try rw [show ((0 : Int)).toNat = 0 from rfl] at hx321_5); (try rw [show 0 * 15 = 0 from rfl] at hx321_5); (try rw [Addr.add_zero'] at hx321_5); (try rw [show ((0 : Int)).toNat = 0 from rfl] at hx321_6); (try rw [show 0 * 15 = 0 from rfl] at hx321_6); (try rw [Addr.add_zero'] at hx321_6); (try rw [show ((0 : Int)).toNat = 0 from rfl] at hx321_7); (try rw [show 0 * 15 = 0 from rfl] at hx321_7); (try rw [Addr.add_zero'] at hx321_7); (try rw [show ((0 : Int)).toNat = 0 from rfl] at hx321_8); (try rw [show 0 * 15 = 0 from rfl] at hx321_8); (try rw [Addr.add_zero'] at hx321_8); (try rw [show ((0 : Int)).toNat = 0 from rfl] at hx321_9); (try rw [show 0 * 15 = 0 from rfl] at hx321_9); (try rw [Addr.add_zero'] at hx321_9); (try rw [show ((0 : Int)).toNat = 0 from rfl] at hx321_10); (try rw [show 0 * 15 = 0 from rfl] at hx321_10); (try rw [Addr.add_zero'] at hx321_10); (try rw [show ((0 : Int)).toNat = 0 from rfl] at hx321_11); (try rw [show 0 * 15 = 0 from rfl] at hx321_11); (try rw [Addr.add_zero'] at hx321_11); (try rw [show ((0 : Int)).toNat = 0 from rfl] at hx321_12); (try rw [show 0 * 15 = 0 from rfl] at hx321_12); (try rw [Addr.add_zero'] at hx321_12); (try rw [show ((0 : Int)).toNat = 0 from rfl] at hx321_13); (try rw [show 0 * 15 = 0 from rfl] at hx321_13); (try rw [Addr.add_zero'] at hx321_13); (try rw [show ((0 : Int)).toNat = 0 from rfl] at hx321_14); (try rw [show 0 * 15 = 0 from rfl] at hx321_14); (try rw [Addr.add_zero'] at hx321_14); replace p321 := eq_true p321; replace q321 := eq_true q321))
                            go_ret
                            exact ⟨by first | rfl | (simp [errW_none, errW_some] <;> rfl) | (simp [*, errW_none, errW_some] <;> rfl), by repeat (first | (with_reducible first | exact HB.out | apply below_alloc | apply pw_below_drewN | apply below_drew1) | exact HB.out)⟩
                          · rw [if_neg c21] at H
                            have c21b0 : (((rd_T38 t314 0).f4) == 0) = false := beq_eq_false_iff_ne.mpr c21
                            have c21b1 : (((rd_T38 t314 0).f4) != 0) = true := bne_iff_ne.mpr c21
                            exact absurd (Option.some.inj H) (by rw [HRT.out]; decide)
                        · rw [if_neg c20] at H
                          have c20b0 : (((rd_T38 t314 0).f3) == 1) = false := beq_eq_false_iff_ne.mpr c20
                          have c20b1 : (((rd_T38 t314 0).f3) != 1) = true := bne_iff_ne.mpr c20
                          exact absurd (Option.some.inj H) (by rw [HRT.out]; decide)
                      · rw [if_neg c19] at H
                        have c19b0 : (((rd_T38 t314 0).f0) == a2) = false := beq_eq_false_iff_ne.mpr c19
                        have c19b1 : (((rd_T38 t314 0).f0) != a2) = true := bne_iff_ne.mpr c19
                        exact absurd (Option.some.inj H) (by rw [HRT.out]; decide)
                    · rw [if_neg c18] at H
                      exact absurd H (by simp)
                  · replace c17 := Bool.eq_false_iff.mpr c17
                    subst c17
                    have H1 : (some false) = some r := by rw [if_neg (show ¬ (false = true) by decide)] at H; exact H
                    clear H
                    have H := H1
                    clear H1
                    exact absurd (Option.some.inj H) (by rw [HRT.out]; decide)
                · rw [if_neg c15] at H
                  exact absurd H (by simp)
              · rw [if_neg c14] at H
                exact absurd H (by simp)
            · rw [if_neg c12] at H
              exact absurd H (by simp)
          · rw [if_neg c11] at H
            exact absurd H (by simp)

/-- THE ONE PURE STATEMENT of laws_FnLinePassed: yours. -/
def laws_FnLinePassed.Pure : Prop := ∀ (a0 : Int) (l1 : List Int) (a2 : Int), (Lit.int .i64 a0).wf = true → l1.length ≤ maxLen → l1.length * 1 ≤ 140737488351232 → (∀ x ∈ l1, (Lit.int .u8 x).wf = true) → (Lit.int .u64 a2).wf = true → ∃ k, laws_FnLinePassed.f k a0 l1 a2 = some true
theorem laws_FnLinePassed.walk (P : laws_FnLinePassed.Pure) (a0 : Int) (a1 : Option Addr) (len1 cap1 : Nat) (z1 : List Int) (a2 : Int) (w : World) (w0 : (Lit.int .i64 a0).wf = true) (w1 : (a1 = none ∧ len1 = 0 ∧ cap1 = 0 ∧ z1 = []) ∨ ∃ x, a1 = some x ∧ len1 ≤ cap1 ∧ cap1 ≤ maxLen ∧ z1.length = cap1 ∧ (∀ i, i < z1.length → w.cell? (x.add i) = some (.int .u8 (z1.getD i 0))) ∧ ∀ n ∈ z1, (Lit.int .u8 n).wf = true) (y1 : len1 * 1 ≤ 140737488351232) (w2 : (Lit.int .u64 a2).wf = true) (hG : Glob w) :
    Calls Tryd.prog 9 #[.int .i64 a0, .slice a1 len1 cap1, .int .u64 a2] w fun e w' => e = .returned (.bool true) ∧ Below w.heap.size w w' := by
  obtain ⟨l1, rfl, hr1, hm1, hw1, hc1⟩ := ReadsInt.ofRowC w1
  obtain ⟨k, h⟩ := P a0 l1 a2 w0 hm1 y1 hw1 w2
  refine (laws_FnLinePassed.calls k a0 _ _ l1 a2 true w (Kd.C_of_reads (d := (0 : Int)) (h1 := fun _ => rfl) hr1) hc1 h hG rfl).mono ?_
  rintro e w' ⟨rfl, hd⟩
  exact ⟨rfl, hd⟩
end Go.Proofs.YtnooghnbohjmlaaDoor.PPl
