-- Printed by a program of this session (mkprint.py over the kit's print.py)
import Derived.Test.YtdepfipebogdcaaDoorHa
import Derived.Test.YtdepfipebogdcaaDoorHb
import Derived.Test.YtdepfipebogdcaaDoorHd
namespace Go.Proofs.YtdepfipebogdcaaDoor.PPl
open Go.RowKit Go.Proofs.YtdepfipebogdcaaDoorW.PrintWords Go.Proofs.YtdepfipebogdcaaDoorW.PrintLast Go.Proofs.YtdepfipebogdcaaDoorW.PrintMore
attribute [local go_sem] max2_int max_two   -- for this text's walks alone
set_option linter.unusedVariables false
set_option linter.unusedSimpArgs false

attribute [local go_sem high] eqA36
/-! ### laws_FnLineHome: function 6 -/
mutual
def laws_FnLineHome.j0 : Nat → ByteArray → ByteArray → Bool → Option (Bool)
  | 0, _, _, _ => none
  | k + 1, x0, x1, x18 => if x18 = true then (some true) else ((spec_IsName.f k x0).bind fun t265 => (if t265 = true then ((spec_IsName.f k x1).bind fun t266 => (if t266 = true then (laws_FnLineHome.j1 k x0 x1 (decide ((wrap64 ((x0.size : Int) + (x1.size : Int))) > 65536))) else (laws_FnLineHome.j1 k x0 x1 true))) else (laws_FnLineHome.j1 k x0 x1 true)))
def laws_FnLineHome.j1 : Nat → ByteArray → ByteArray → Bool → Option (Bool)
  | 0, _, _, _ => none
  | k + 1, x0, x1, x34 => if x34 = true then (some true) else ((some (([false, true] : List Bool) : List Bool)).bind fun y267 => (laws_FnLineHome.l0 k x0 x1 y267 (y267.length : Int) 0))
def laws_FnLineHome.l0 : Nat → ByteArray → ByteArray → List Bool → Int → Int → Option (Bool)
  | 0, _, _, _, _, _ => none
  | k + 1, x0, x1, x35, x36, x37 => if x37 < x36 then (if 0 ≤ x37 then (if x37 < (x35.length : Int) then (if 1 + x0.size ≤ 9223372036854775807 then (if ((⟨#[47]⟩ : ByteArray) ++ x0).size + 1 ≤ 9223372036854775807 then (if (((⟨#[47]⟩ : ByteArray) ++ x0) ++ (⟨#[47]⟩ : ByteArray)).size + x1.size ≤ 9223372036854775807 then (if rdOf false x35 x37 = true then (if 1 + x1.size ≤ 9223372036854775807 then (laws_FnLineHome.j3 k x0 x1 ((⟨#[47]⟩ : ByteArray) ++ x1) ((⟨#[47]⟩ : ByteArray) ++ x1) x35 x36 x37) else (none)) else (laws_FnLineHome.j3 k x0 x1 x1 ((((⟨#[47]⟩ : ByteArray) ++ x0) ++ (⟨#[47]⟩ : ByteArray)) ++ x1) x35 x36 x37)) else (none)) else (none)) else (none)) else (none)) else (none)) else (some true)
def laws_FnLineHome.j3 : Nat → ByteArray → ByteArray → ByteArray → ByteArray → List Bool → Int → Int → Option (Bool)
  | 0, _, _, _, _, _, _, _ => none
  | k + 1, x0, x1, x7, x8, x35, x36, x37 => (laws_usual.f).bind fun bt271 => ((laws_named.f k bt271.1 bt271.2.1 bt271.2.2.1 bt271.2.2.2.1 bt271.2.2.2.2 0 (([1] : List Int)) x7).bind fun t279 => (if 1 + x0.size ≤ 9223372036854775807 then ((laws_nexts.f 1).bind fun t282 => ((impl_LineSteps.f k t279 ([] : List Int) 0 8 false ((⟨#[47]⟩ : ByteArray) ++ x0) t282).bind fun bt285 => (if bt285.2 = 0 then (if (bt285.1.length : Int) = 1 then (if 0 < (bt285.1.length : Int) then (if ((rd_T41 bt285.1 0).f2) = 0 then (if (((rd_T41 bt285.1 0).f0.f2.f0) || (!((((rd_T41 bt285.1 0).f0.f2.f1).toList) == x8.toList) || (!(((rd_T41 bt285.1 0).f0.f2.f2) == 0) || (!(((rd_T41 bt285.1 0).f0.f2.f3) == 0))))) = true then (some false) else (laws_FnLineHome.l0 k x0 x1 x35 x36 (wrap64 (x37 + 1)))) else (some false)) else (none)) else (some false)) else (some false)))) else (none)))
end
def laws_FnLineHome.f (k : Nat) (a0 : ByteArray) (a1 : ByteArray) : Option (Bool) := if (a0.size : Int) > 2147483647 then (laws_FnLineHome.j0 k a0 a1 true) else (laws_FnLineHome.j0 k a0 a1 (decide ((a1.size : Int) > 2147483647)))
theorem laws_FnLineHome.mono_l : ∀ k, (∀ y0 y1 y2, LeO (laws_FnLineHome.j0 k y0 y1 y2) (laws_FnLineHome.j0 (k + 1) y0 y1 y2)) ∧ (∀ y0 y1 y2, LeO (laws_FnLineHome.j1 k y0 y1 y2) (laws_FnLineHome.j1 (k + 1) y0 y1 y2)) ∧ (∀ y0 y1 y2 y3 y4, LeO (laws_FnLineHome.l0 k y0 y1 y2 y3 y4) (laws_FnLineHome.l0 (k + 1) y0 y1 y2 y3 y4)) ∧ (∀ y0 y1 y2 y3 y4 y5 y6, LeO (laws_FnLineHome.j3 k y0 y1 y2 y3 y4 y5 y6) (laws_FnLineHome.j3 (k + 1) y0 y1 y2 y3 y4 y5 y6))
  | 0 => ⟨fun _ _ _ r h => by simp [laws_FnLineHome.j0] at h, fun _ _ _ r h => by simp [laws_FnLineHome.j1] at h, fun _ _ _ _ _ r h => by simp [laws_FnLineHome.l0] at h, fun _ _ _ _ _ _ _ r h => by simp [laws_FnLineHome.j3] at h⟩
  | k + 1 => by
    obtain ⟨ih0, ih1, ih2, ih3⟩ := laws_FnLineHome.mono_l k
    refine ⟨?_, ?_, ?_, ?_⟩
    · intro y0 y1 y2
      unfold laws_FnLineHome.j0
      repeat' first
      | (with_reducible exact ih0 _ _ _)
      | (with_reducible exact ih1 _ _ _)
      | (with_reducible exact ih2 _ _ _ _ _)
      | (with_reducible exact ih3 _ _ _ _ _ _ _)
      | (with_reducible exact impl_LineSteps.mono _ _ _ _ _ _ _ _)
      | (with_reducible exact laws_named.mono _ _ _ _ _ _ _ _ _)
      | (with_reducible exact spec_IsName.mono _ _)
      | (with_reducible exact LeO.refl _)
      | (with_reducible exact LeO.none _)
      | (with_reducible refine LeO.ite ?_ ?_)
      | (with_reducible refine LeO.bind ?_ (fun _ => ?_))
      | exact ih0 _ _ _
      | exact ih1 _ _ _
      | exact ih2 _ _ _ _ _
      | exact ih3 _ _ _ _ _ _ _
      | exact impl_LineSteps.mono _ _ _ _ _ _ _ _
      | exact laws_named.mono _ _ _ _ _ _ _ _ _
      | exact spec_IsName.mono _ _
      | exact LeO.none _
      | refine LeO.ite ?_ ?_
      | refine LeO.bind ?_ (fun _ => ?_)
    · intro y0 y1 y2
      unfold laws_FnLineHome.j1
      repeat' first
      | (with_reducible exact ih0 _ _ _)
      | (with_reducible exact ih1 _ _ _)
      | (with_reducible exact ih2 _ _ _ _ _)
      | (with_reducible exact ih3 _ _ _ _ _ _ _)
      | (with_reducible exact impl_LineSteps.mono _ _ _ _ _ _ _ _)
      | (with_reducible exact laws_named.mono _ _ _ _ _ _ _ _ _)
      | (with_reducible exact spec_IsName.mono _ _)
      | (with_reducible exact LeO.refl _)
      | (with_reducible exact LeO.none _)
      | (with_reducible refine LeO.ite ?_ ?_)
      | (with_reducible refine LeO.bind ?_ (fun _ => ?_))
      | exact ih0 _ _ _
      | exact ih1 _ _ _
      | exact ih2 _ _ _ _ _
      | exact ih3 _ _ _ _ _ _ _
      | exact impl_LineSteps.mono _ _ _ _ _ _ _ _
      | exact laws_named.mono _ _ _ _ _ _ _ _ _
      | exact spec_IsName.mono _ _
      | exact LeO.none _
      | refine LeO.ite ?_ ?_
      | refine LeO.bind ?_ (fun _ => ?_)
    · intro y0 y1 y2 y3 y4
      unfold laws_FnLineHome.l0
      repeat' first
      | (with_reducible exact ih0 _ _ _)
      | (with_reducible exact ih1 _ _ _)
      | (with_reducible exact ih2 _ _ _ _ _)
      | (with_reducible exact ih3 _ _ _ _ _ _ _)
      | (with_reducible exact impl_LineSteps.mono _ _ _ _ _ _ _ _)
      | (with_reducible exact laws_named.mono _ _ _ _ _ _ _ _ _)
      | (with_reducible exact spec_IsName.mono _ _)
      | (with_reducible exact LeO.refl _)
      | (with_reducible exact LeO.none _)
      | (with_reducible refine LeO.ite ?_ ?_)
      | (with_reducible refine LeO.bind ?_ (fun _ => ?_))
      | exact ih0 _ _ _
      | exact ih1 _ _ _
      | exact ih2 _ _ _ _ _
      | exact ih3 _ _ _ _ _ _ _
      | exact impl_LineSteps.mono _ _ _ _ _ _ _ _
      | exact laws_named.mono _ _ _ _ _ _ _ _ _
      | exact spec_IsName.mono _ _
      | exact LeO.none _
      | refine LeO.ite ?_ ?_
      | refine LeO.bind ?_ (fun _ => ?_)
    · intro y0 y1 y2 y3 y4 y5 y6
      unfold laws_FnLineHome.j3
      repeat' first
      | (with_reducible exact ih0 _ _ _)
      | (with_reducible exact ih1 _ _ _)
      | (with_reducible exact ih2 _ _ _ _ _)
      | (with_reducible exact ih3 _ _ _ _ _ _ _)
      | (with_reducible exact impl_LineSteps.mono _ _ _ _ _ _ _ _)
      | (with_reducible exact laws_named.mono _ _ _ _ _ _ _ _ _)
      | (with_reducible exact spec_IsName.mono _ _)
      | (with_reducible exact LeO.refl _)
      | (with_reducible exact LeO.none _)
      | (with_reducible refine LeO.ite ?_ ?_)
      | (with_reducible refine LeO.bind ?_ (fun _ => ?_))
      | exact ih0 _ _ _
      | exact ih1 _ _ _
      | exact ih2 _ _ _ _ _
      | exact ih3 _ _ _ _ _ _ _
      | exact impl_LineSteps.mono _ _ _ _ _ _ _ _
      | exact laws_named.mono _ _ _ _ _ _ _ _ _
      | exact spec_IsName.mono _ _
      | exact LeO.none _
      | refine LeO.ite ?_ ?_
      | refine LeO.bind ?_ (fun _ => ?_)
theorem laws_FnLineHome.mono : ∀ a0 a1 k, LeO (laws_FnLineHome.f k a0 a1) (laws_FnLineHome.f (k + 1) a0 a1) := by
  intro a0 a1 k
  obtain ⟨ih0, ih1, ih2, ih3⟩ := laws_FnLineHome.mono_l k
  unfold laws_FnLineHome.f
  repeat' first
      | (with_reducible exact ih0 _ _ _)
      | (with_reducible exact ih1 _ _ _)
      | (with_reducible exact ih2 _ _ _ _ _)
      | (with_reducible exact ih3 _ _ _ _ _ _ _)
      | (with_reducible exact impl_LineSteps.mono _ _ _ _ _ _ _ _)
      | (with_reducible exact laws_named.mono _ _ _ _ _ _ _ _ _)
      | (with_reducible exact spec_IsName.mono _ _)
      | (with_reducible exact LeO.refl _)
      | (with_reducible exact LeO.none _)
      | (with_reducible refine LeO.ite ?_ ?_)
      | (with_reducible refine LeO.bind ?_ (fun _ => ?_))
      | exact ih0 _ _ _
      | exact ih1 _ _ _
      | exact ih2 _ _ _ _ _
      | exact ih3 _ _ _ _ _ _ _
      | exact impl_LineSteps.mono _ _ _ _ _ _ _ _
      | exact laws_named.mono _ _ _ _ _ _ _ _ _
      | exact spec_IsName.mono _ _
      | exact LeO.none _
      | refine LeO.ite ?_ ?_
      | refine LeO.bind ?_ (fun _ => ?_)
set_option maxHeartbeats 8000000 in
set_option maxRecDepth 100000 in
theorem laws_FnLineHome.calls (k : Nat) (a0 : ByteArray) (a1 : ByteArray) (r : Bool) (w : World) (h : laws_FnLineHome.f k a0 a1 = some r) (hG : Glob w) (hrt : r = true) :
    Calls Tryd.prog 6 #[.string a0, .string a1] w fun e w' => e = .returned (.bool r) ∧ Below w.heap.size w w' := by
  have HGL := Aside0.mk hG
  clear hG
  have HRT := Aside0.mk hrt
  clear hrt
  have hu36 := Tryd.underlying36
  have HB := Aside0.mk (Below.refl w.heap.size w)
  have H : (if (a0.size : Int) > 2147483647 then (laws_FnLineHome.j0 k a0 a1 true) else (laws_FnLineHome.j0 k a0 a1 (decide ((a1.size : Int) > 2147483647)))) = some r := h
  clear h
  have HC3 := Aside0.mk H
  clear H
  go_enter Tryd.func6, Tryd.ntmps6
  go_upto_region 1 with (fail)
  go_cut [18] (fun v18 wc => ∃ (kq : Nat) (x18_2 : Bool), v18 = .bool x18_2 ∧ Aside0 (laws_FnLineHome.j0 kq a0 a1 x18_2 = some r) ∧ Aside0 (kq ≤ k) ∧ Aside0 (Below w.heap.size w wc))
  case first =>
    have H := HC3.out
    clear HC3
    by_cases c4 : (a0.size : Int) > 2147483647
    · rw [if_pos c4] at H
      have c4b0 : decide (2147483647 < (a0.size : Int)) = true := decide_eq_true c4
      have c4b1 : decide (2147483647 < a0.size) = true := decide_eq_true (by omega)
      clear c4
      (first | rw [c4b0] | (simp only [i64_w, i32_w]; rw [c4b0]) | skip)
      have H' := Aside0.mk H
      clear H
      go_wp2
      go_meet
      case rel => exact ⟨_, (true), (by first | rfl | (simp; done) | (simp [*]; done)), H', ⟨by first | omega | exact Nat.le_refl _⟩, ⟨by repeat (first | (with_reducible first | exact HB.out | apply below_alloc | apply pw_below_drewN | apply below_drew1) | exact HB.out)⟩⟩
    · rw [if_neg c4] at H
      have c4b0 : decide (2147483647 < (a0.size : Int)) = false := decide_eq_false c4
      have c4b1 : decide (2147483647 < a0.size) = false := decide_eq_false (by omega)
      clear c4
      (first | rw [c4b0] | (simp only [i64_w, i32_w]; rw [c4b0]) | skip)
      have H' := Aside0.mk H
      clear H
      go_wp2
      go_meet
      case rel => exact ⟨_, (decide ((a1.size : Int) > 2147483647)), (by first | rfl | (simp; done) | (simp [*]; done)), H', ⟨by first | omega | exact Nat.le_refl _⟩, ⟨by repeat (first | (with_reducible first | exact HB.out | apply below_alloc | apply pw_below_drewN | apply below_drew1) | exact HB.out)⟩⟩
  case rest =>
    clear HC3
    try clear p2
    try clear c4
    try clear c4b0
    try clear c4b1
    obtain ⟨kq, x18_2, rfl, HA, HJ2, HB⟩ := hcut
    cases kq with
    | zero => exact absurd HA.out (by simp [laws_FnLineHome.j0])
    | succ kj2 =>
      have H := HA.out
      clear HA
      simp only [laws_FnLineHome.j0] at H
      by_cases c5 : x18_2 = true
      · subst c5
        have H1 : (some true) = some r := by rw [if_pos rfl] at H; exact H
        clear H
        have H := H1
        clear H1
        obtain rfl := Option.some.inj H
        go_wp2
        go_ret
        exact ⟨by first | rfl | (simp [errW_none, errW_some] <;> rfl) | (simp [*, errW_none, errW_some] <;> rfl), by repeat (first | (with_reducible first | exact HB.out | apply below_alloc | apply pw_below_drewN | apply below_drew1) | exact HB.out)⟩
      · replace c5 := Bool.eq_false_iff.mpr c5
        subst c5
        have H1 : ((spec_IsName.f kj2 a0).bind fun t265 => (if t265 = true then ((spec_IsName.f kj2 a1).bind fun t266 => (if t266 = true then (laws_FnLineHome.j1 kj2 a0 a1 (decide ((wrap64 ((a0.size : Int) + (a1.size : Int))) > 65536))) else (laws_FnLineHome.j1 kj2 a0 a1 true))) else (laws_FnLineHome.j1 kj2 a0 a1 true))) = some r := by rw [if_neg (show ¬ (false = true) by decide)] at H; exact H
        clear H
        have H := H1
        clear H1
        have HC6 := Aside0.mk H
        clear H
        go_upto_region 3 with (fail)
        go_cut [34] (fun v34 wc => ∃ (kq : Nat) (x34_5 : Bool), v34 = .bool x34_5 ∧ Aside0 (laws_FnLineHome.j1 kq a0 a1 x34_5 = some r) ∧ Aside0 (kq ≤ kj2) ∧ Aside0 (Below w.heap.size w wc))
        case first =>
          have H := HC6.out
          clear HC6
          replace H := Option.bind_eq_some_iff.mp H
          obtain ⟨t265, A70, H⟩ := H
          replace H : (if t265 = true then ((spec_IsName.f kj2 a1).bind fun t266 => (if t266 = true then (laws_FnLineHome.j1 kj2 a0 a1 (decide ((wrap64 ((a0.size : Int) + (a1.size : Int))) > 65536))) else (laws_FnLineHome.j1 kj2 a0 a1 true))) else (laws_FnLineHome.j1 kj2 a0 a1 true)) = some r := H
          have A7 := Aside0.mk A70
          clear A70
          by_cases c8 : t265 = true
          · subst c8
            have H1 : ((spec_IsName.f kj2 a1).bind fun t266 => (if t266 = true then (laws_FnLineHome.j1 kj2 a0 a1 (decide ((wrap64 ((a0.size : Int) + (a1.size : Int))) > 65536))) else (laws_FnLineHome.j1 kj2 a0 a1 true))) = some r := by rw [if_pos rfl] at H; exact H
            clear H
            have H := H1
            clear H1
            replace H := Option.bind_eq_some_iff.mp H
            obtain ⟨t266, A90, H⟩ := H
            replace H : (if t266 = true then (laws_FnLineHome.j1 kj2 a0 a1 (decide ((wrap64 ((a0.size : Int) + (a1.size : Int))) > 65536))) else (laws_FnLineHome.j1 kj2 a0 a1 true)) = some r := H
            have A9 := Aside0.mk A90
            clear A90
            by_cases c10 : t266 = true
            · subst c10
              have H1 : (laws_FnLineHome.j1 kj2 a0 a1 (decide ((wrap64 ((a0.size : Int) + (a1.size : Int))) > 65536))) = some r := by rw [if_pos rfl] at H; exact H
              clear H
              have H := H1
              clear H1
              have H' := Aside0.mk H
              clear H
              go_wp2_with (first | ((with_reducible refine gate_callee (f := 21) rfl ?_); refine goesL_ (some 20) rfl rfl Tryd.func21 (by kernel_rfl) rfl #[.string a0] rfl qL ?_; (with_reducible refine (spec_IsName.calls kj2 a0 true _ A7.out).mono ?_); rintro e w' ⟨rfl, ⟨nd, rfl⟩⟩; refine ⟨_, rfl, ?_⟩) | (go_at_call 21; (with_reducible refine (spec_IsName.calls kj2 a1 true _ A9.out).mono ?_); rintro e w' ⟨rfl, ⟨nd, rfl⟩⟩))
              go_meet
              case rel => exact ⟨_, (decide ((wrap64 ((a0.size : Int) + (a1.size : Int))) > 65536)), (by first | rfl | (simp; done) | (simp [*]; done)), H', ⟨by have := HJ2.out; first | omega | exact Nat.le_refl _⟩, ⟨by repeat (first | (with_reducible first | exact HB.out | apply below_alloc | apply pw_below_drewN | apply below_drew1) | exact HB.out)⟩⟩
            · replace c10 := Bool.eq_false_iff.mpr c10
              subst c10
              have H1 : (laws_FnLineHome.j1 kj2 a0 a1 true) = some r := by rw [if_neg (show ¬ (false = true) by decide)] at H; exact H
              clear H
              have H := H1
              clear H1
              have H' := Aside0.mk H
              clear H
              go_wp2_with (first | ((with_reducible refine gate_callee (f := 21) rfl ?_); refine goesL_ (some 20) rfl rfl Tryd.func21 (by kernel_rfl) rfl #[.string a0] rfl qL ?_; (with_reducible refine (spec_IsName.calls kj2 a0 true _ A7.out).mono ?_); rintro e w' ⟨rfl, ⟨nd, rfl⟩⟩; refine ⟨_, rfl, ?_⟩) | (go_at_call 21; (with_reducible refine (spec_IsName.calls kj2 a1 false _ A9.out).mono ?_); rintro e w' ⟨rfl, ⟨nd, rfl⟩⟩))
              go_meet
              case rel => exact ⟨_, (true), (by first | rfl | (simp; done) | (simp [*]; done)), H', ⟨by have := HJ2.out; first | omega | exact Nat.le_refl _⟩, ⟨by repeat (first | (with_reducible first | exact HB.out | apply below_alloc | apply pw_below_drewN | apply below_drew1) | exact HB.out)⟩⟩
          · replace c8 := Bool.eq_false_iff.mpr c8
            subst c8
            have H1 : (laws_FnLineHome.j1 kj2 a0 a1 true) = some r := by rw [if_neg (show ¬ (false = true) by decide)] at H; exact H
            clear H
            have H := H1
            clear H1
            have H' := Aside0.mk H
            clear H
            go_wp2_with (first | ((with_reducible refine gate_callee (f := 21) rfl ?_); refine goesL_ (some 20) rfl rfl Tryd.func21 (by kernel_rfl) rfl #[.string a0] rfl qL ?_; (with_reducible refine (spec_IsName.calls kj2 a0 false _ A7.out).mono ?_); rintro e w' ⟨rfl, ⟨nd, rfl⟩⟩; refine ⟨_, rfl, ?_⟩))
            go_meet
            case rel => exact ⟨_, (true), (by first | rfl | (simp; done) | (simp [*]; done)), H', ⟨by have := HJ2.out; first | omega | exact Nat.le_refl _⟩, ⟨by repeat (first | (with_reducible first | exact HB.out | apply below_alloc | apply pw_below_drewN | apply below_drew1) | exact HB.out)⟩⟩
        case rest =>
          clear HC6
          try clear c1
          try clear c2
          try clear p2
          try clear c4
          try clear c4b0
          try clear c4b1
          try clear c5
          try clear c6
          try clear p6
          try clear c8
          try clear c10
          try clear p2
          obtain ⟨kq, x34_5, rfl, HA, HJ5, HB⟩ := hcut
          cases kq with
          | zero => exact absurd HA.out (by simp [laws_FnLineHome.j1])
          | succ kj5 =>
            have H := HA.out
            clear HA
            simp only [laws_FnLineHome.j1] at H
            by_cases c11 : x34_5 = true
            · subst c11
              have H1 : (some true) = some r := by rw [if_pos rfl] at H; exact H
              clear H
              have H := H1
              clear H1
              obtain rfl := Option.some.inj H
              go_wp2
              go_ret
              exact ⟨by first | rfl | (simp [errW_none, errW_some] <;> rfl) | (simp [*, errW_none, errW_some] <;> rfl), by repeat (first | (with_reducible first | exact HB.out | apply below_alloc | apply pw_below_drewN | apply below_drew1) | exact HB.out)⟩
            · replace c11 := Bool.eq_false_iff.mpr c11
              subst c11
              have H1 : ((some (([false, true] : List Bool) : List Bool)).bind fun y267 => (laws_FnLineHome.l0 kj5 a0 a1 y267 (y267.length : Int) 0)) = some r := by rw [if_neg (show ¬ (false = true) by decide)] at H; exact H
              clear H
              have H := H1
              clear H1
              obtain ⟨y267, hy267⟩ : ∃ y_ : List Bool, y_ = (([false, true] : List Bool)) := ⟨_, rfl⟩
              replace H : (laws_FnLineHome.l0 kj5 a0 a1 y267 (y267.length : Int) 0) = some r := by first | (rw [hy267]; with_reducible exact H) | (have H2_ := (Option.bind_some _ _).symm.trans H; rw [hy267]; with_reducible exact H2_) | (have H2_ := (Option.bind_some _ _).symm.trans H; with_reducible exact H2_) | with_reducible exact H | (rw [hy267]; exact H) | exact H
              have Ny267 := Aside0.mk hy267
              clear hy267
              have H' := Aside0.mk H
              clear H
              go_wp2_with (first | ((with_reducible refine gate_dst (N := 35) rfl ?_); (try (refine gate_guard (by rfl) ?_; dsimp only)); refine Kd.R_lit Kd.bool _ 4 ?hg (N := 35) ?hd (xs := ([false, true] : List Bool)) (inner := [.bool false, .bool true]) (ok := fun _ => True) (okp := fun _ => True) ?hr ?hp (fun _ hk => hk) trivial (Below.refl _ _) (Nat.le_refl _) (by simp) ?_; (case hd => rfl); (case hg => rfl); (case hr => first | (go_simp; done) | (go_simp; rfl)); (case hp => exact (Reps.one (show Kd.M Kd.bool _ _ _ false [.bool false] from rfl) (Reps.one (show Kd.M Kd.bool _ _ _ true [.bool true] from rfl) (Reps.none _ _)))); intro v268 w12 ho13 hb hg_ hnew_; clear hg_ hnew_; (first | rw [← Ny267.out] at ho13 | (simp only [Int.reduceToNat] at ho13; rw [← Ny267.out] at ho13)); have n0_ := Aside0.mk (Kd.R_lower ho13 (below_size qB)); have n1_ := Aside0.mk (below_step qB hb); clear HB; have HO269 := n0_; have HB := n1_; clear n0_ n1_; clear hb ho13; obtain ⟨Ao14, co14, eo14⟩ := Kd.R_slice HO269.out; subst eo14))
              go_loopg [37] kj5 (fun kq v37 w' => ∃ (x37_3 : Int), v37 = .int .i64 x37_3 ∧ Aside0 (laws_FnLineHome.l0 kq a0 a1 y267 (y267.length : Int) x37_3 = some r) ∧ Aside0 (kq ≤ kj5) ∧ Aside0 (Kd.R Kd.bool 4 w' w.heap.size (fun _ => True) (.slice Ao14 y267.length co14) y267) ∧ Aside0 (Below w.heap.size w w'))
              case atStart => exact ⟨(0), (by first | rfl | (simp; done) | (simp [*]; done)), H', ⟨Nat.le_refl _⟩, ⟨by (with_reducible repeat (first | apply Kd.R_alloc | apply Kd.R_drewN | apply Kd.R_drew)); exact HO269.out⟩, ⟨by repeat (first | (with_reducible first | exact HB.out | apply below_alloc | apply pw_below_drewN | apply below_drew1) | exact HB.out)⟩⟩
              case round =>
                clear H'
                try clear c1
                try clear c2
                try clear p2
                try clear c4
                try clear c4b0
                try clear c4b1
                try clear c5
                try clear c6
                try clear p6
                try clear c8
                try clear c10
                try clear c11
                try clear p2
                try clear p6
                obtain ⟨x37_3, rfl, HA, HK3, HO_35, HB⟩ := hrel
                cases gk with
                | zero => exact absurd HA.out (by simp [laws_FnLineHome.l0])
                | succ k3 =>
                  have H := HA.out
                  clear HA
                  simp only [laws_FnLineHome.l0] at H
                  by_cases c15 : x37_3 < (y267.length : Int)
                  · rw [if_pos c15] at H
                    have c15b0 : decide (x37_3 < (y267.length : Int)) = true := decide_eq_true c15
                    clear c15
                    by_cases c16 : 0 ≤ x37_3
                    · rw [if_pos c16] at H
                      have c16b0 : decide (0 ≤ x37_3) = true := decide_eq_true c16
                      clear c16
                      by_cases c17 : x37_3 < (y267.length : Int)
                      · rw [if_pos c17] at H
                        have c17b0 : decide (x37_3 < (y267.length : Int)) = true := decide_eq_true c17
                        clear c17
                        by_cases c18 : 1 + a0.size ≤ 9223372036854775807
                        · rw [if_pos c18] at H
                          have c18b0 := eq_true c18
                          have c18b1 : decide (1 + a0.size ≤ 9223372036854775807) = true := decide_eq_true c18
                          try have c18b2 : (9223372036854775807 < 1 + a0.size) = False := eq_false (Nat.not_lt.2 c18)
                          by_cases c19 : ((⟨#[47]⟩ : ByteArray) ++ a0).size + 1 ≤ 9223372036854775807
                          · rw [if_pos c19] at H
                            have c19b0 := eq_true c19
                            have c19b1 : decide (((⟨#[47]⟩ : ByteArray) ++ a0).size + 1 ≤ 9223372036854775807) = true := decide_eq_true c19
                            try have c19b2 : (9223372036854775807 < ((⟨#[47]⟩ : ByteArray) ++ a0).size + 1) = False := eq_false (Nat.not_lt.2 c19)
                            try have c19b3 : (9223372036854775807 < 1 + a0.size + 1) = False := eq_false (by have hz_ := c19; simp only [ByteArray.size_append, ByteArray.size, Array.size] at hz_ ⊢; simp at hz_ ⊢; omega)
                            by_cases c20 : (((⟨#[47]⟩ : ByteArray) ++ a0) ++ (⟨#[47]⟩ : ByteArray)).size + a1.size ≤ 9223372036854775807
                            · rw [if_pos c20] at H
                              have c20b0 := eq_true c20
                              have c20b1 : decide ((((⟨#[47]⟩ : ByteArray) ++ a0) ++ (⟨#[47]⟩ : ByteArray)).size + a1.size ≤ 9223372036854775807) = true := decide_eq_true c20
                              try have c20b2 : (9223372036854775807 < (((⟨#[47]⟩ : ByteArray) ++ a0) ++ (⟨#[47]⟩ : ByteArray)).size + a1.size) = False := eq_false (Nat.not_lt.2 c20)
                              try have c20b3 : (9223372036854775807 < 1 + a0.size + 1 + a1.size) = False := eq_false (by have hz_ := c20; simp only [ByteArray.size_append, ByteArray.size, Array.size] at hz_ ⊢; simp at hz_ ⊢; omega)
                              have HC21 := Aside0.mk H
                              clear H
                              have p270 : 0 ≤ (x37_3 : Int) := of_decide_eq_true qA
                              have q270 : x37_3 < (y267.length : Int) := of_decide_eq_true qA
                              obtain ⟨ad270, e270, hx270_0⟩ := Kd.at_bool (Kd.R_reads' HO_35.out).2.2 x37_3 p270 q270
                              cases e270
                              replace p270 := eq_true p270
                              replace q270 := eq_true q270
                              go_upto_if 47 with (fail)
                              go_cut [6, 7, 8] (fun v6 v7 v8 wc => ∃ (kq : Nat) (x7_20 : ByteArray) (x8_20 : ByteArray), v7 = .string x7_20 ∧ v8 = .string x8_20 ∧ Aside0 (laws_FnLineHome.j3 kq a0 a1 x7_20 x8_20 y267 (y267.length : Int) x37_3 = some r) ∧ Aside0 (kq ≤ k3) ∧ Aside0 (Kd.R Kd.bool 4 wc w.heap.size (fun _ => True) (.slice (some ad270) y267.length co14) y267) ∧ Aside0 (Below w.heap.size w wc))
                              case first =>
                                have H := HC21.out
                                clear HC21
                                obtain ⟨bq22, hbq22⟩ : ∃ b_ : Bool, b_ = (rdOf false y267 x37_3) := ⟨_, rfl⟩
                                replace H : (if bq22 = true then (if 1 + a1.size ≤ 9223372036854775807 then (laws_FnLineHome.j3 k3 a0 a1 ((⟨#[47]⟩ : ByteArray) ++ a1) ((⟨#[47]⟩ : ByteArray) ++ a1) y267 (y267.length : Int) x37_3) else (none)) else (laws_FnLineHome.j3 k3 a0 a1 a1 ((((⟨#[47]⟩ : ByteArray) ++ a0) ++ (⟨#[47]⟩ : ByteArray)) ++ a1) y267 (y267.length : Int) x37_3)) = some r := by rw [← hbq22] at H; exact H
                                have Nbq22 := Aside0.mk hbq22
                                clear hbq22
                                (try rw [← Nbq22.out])
                                by_cases c23 : bq22 = true
                                · subst c23
                                  have H1 : (if 1 + a1.size ≤ 9223372036854775807 then (laws_FnLineHome.j3 k3 a0 a1 ((⟨#[47]⟩ : ByteArray) ++ a1) ((⟨#[47]⟩ : ByteArray) ++ a1) y267 (y267.length : Int) x37_3) else (none)) = some r := by rw [if_pos rfl] at H; exact H
                                  clear H
                                  have H := H1
                                  clear H1
                                  by_cases c24 : 1 + a1.size ≤ 9223372036854775807
                                  · rw [if_pos c24] at H
                                    have c24b0 := eq_true c24
                                    have c24b1 : decide (1 + a1.size ≤ 9223372036854775807) = true := decide_eq_true c24
                                    try have c24b2 : (9223372036854775807 < 1 + a1.size) = False := eq_false (Nat.not_lt.2 c24)
                                    have H' := Aside0.mk H
                                    clear H
                                    go_wp2
                                    go_meet
                                    case rel => exact ⟨_, ((⟨#[47]⟩ : ByteArray) ++ a1), ((⟨#[47]⟩ : ByteArray) ++ a1), (by first | rfl | (simp; done) | (simp [*]; done)), (by first | rfl | (simp; done) | (simp [*]; done)), H', ⟨by have := HJ2.out; have := HJ5.out; have := HK3.out; first | omega | exact Nat.le_refl _⟩, ⟨by (with_reducible repeat (first | apply Kd.R_alloc | apply Kd.R_drewN | apply Kd.R_drew)); exact HO_35.out⟩, ⟨by repeat (first | (with_reducible first | exact HB.out | apply below_alloc | apply pw_below_drewN | apply below_drew1) | exact HB.out)⟩⟩
                                  · rw [if_neg c24] at H
                                    exact absurd H (by simp)
                                · replace c23 := Bool.eq_false_iff.mpr c23
                                  subst c23
                                  have H1 : (laws_FnLineHome.j3 k3 a0 a1 a1 ((((⟨#[47]⟩ : ByteArray) ++ a0) ++ (⟨#[47]⟩ : ByteArray)) ++ a1) y267 (y267.length : Int) x37_3) = some r := by rw [if_neg (show ¬ (false = true) by decide)] at H; exact H
                                  clear H
                                  have H := H1
                                  clear H1
                                  have H' := Aside0.mk H
                                  clear H
                                  go_wp2
                                  go_meet
                                  case rel => exact ⟨_, (a1), ((((⟨#[47]⟩ : ByteArray) ++ a0) ++ (⟨#[47]⟩ : ByteArray)) ++ a1), (by first | rfl | (simp; done) | (simp [*]; done)), (by first | rfl | (simp; done) | (simp [*]; done)), H', ⟨by have := HJ2.out; have := HJ5.out; have := HK3.out; first | omega | exact Nat.le_refl _⟩, ⟨by (with_reducible repeat (first | apply Kd.R_alloc | apply Kd.R_drewN | apply Kd.R_drew)); exact HO_35.out⟩, ⟨by repeat (first | (with_reducible first | exact HB.out | apply below_alloc | apply pw_below_drewN | apply below_drew1) | exact HB.out)⟩⟩
                              case rest =>
                                clear HC21
                                try clear c1
                                try clear c2
                                try clear p2
                                try clear q2
                                try clear hx2
                                try clear c4
                                try clear c4b0
                                try clear c4b1
                                try clear c5
                                try clear c6
                                try clear p6
                                try clear c8
                                try clear c10
                                try clear c11
                                try clear c15
                                try clear c15b0
                                try clear c16
                                try clear c16b0
                                try clear c17
                                try clear c17b0
                                try clear c18
                                try clear c18b0
                                try clear c18b1
                                try clear c18b2
                                try clear c19
                                try clear c19b0
                                try clear c19b1
                                try clear c19b2
                                try clear c20
                                try clear c20b0
                                try clear c20b1
                                try clear c20b2
                                try clear c21
                                try clear q22
                                try clear c23
                                try clear c24
                                try clear c24b0
                                try clear c24b1
                                try clear c24b2
                                try clear hx270_0
                                try clear p2
                                try clear p270
                                try clear p6
                                try clear q270
                                obtain ⟨kq, x7_20, x8_20, rfl, rfl, HA, HJ20, HO_35, HB⟩ := hcut
                                cases kq with
                                | zero => exact absurd HA.out (by simp [laws_FnLineHome.j3])
                                | succ kj20 =>
                                  have H := HA.out
                                  clear HA
                                  simp only [laws_FnLineHome.j3] at H
                                  replace H := Option.bind_eq_some_iff.mp H
                                  obtain ⟨⟨t271, t272, t273, t274, t275⟩, A250, H⟩ := H
                                  replace H : ((laws_named.f kj20 t271 t272 t273 t274 t275 0 (([1] : List Int)) x7_20).bind fun t279 => (if 1 + a0.size ≤ 9223372036854775807 then ((laws_nexts.f 1).bind fun t282 => ((impl_LineSteps.f kj20 t279 ([] : List Int) 0 8 false ((⟨#[47]⟩ : ByteArray) ++ a0) t282).bind fun bt285 => (if bt285.2 = 0 then (if (bt285.1.length : Int) = 1 then (if 0 < (bt285.1.length : Int) then (if ((rd_T41 bt285.1 0).f2) = 0 then (if (((rd_T41 bt285.1 0).f0.f2.f0) || (!((((rd_T41 bt285.1 0).f0.f2.f1).toList) == x8_20.toList) || (!(((rd_T41 bt285.1 0).f0.f2.f2) == 0) || (!(((rd_T41 bt285.1 0).f0.f2.f3) == 0))))) = true then (some false) else (laws_FnLineHome.l0 kj20 a0 a1 y267 (y267.length : Int) (wrap64 (x37_3 + 1)))) else (some false)) else (none)) else (some false)) else (some false)))) else (none))) = some r := H
                                  have A25 := Aside0.mk A250
                                  clear A250
                                  obtain ⟨y276, hy276⟩ : ∃ y_ : List Int, y_ = (([1] : List Int)) := ⟨_, rfl⟩
                                  replace H : ((laws_named.f kj20 t271 t272 t273 t274 t275 0 y276 x7_20).bind fun t279 => (if 1 + a0.size ≤ 9223372036854775807 then ((laws_nexts.f 1).bind fun t282 => ((impl_LineSteps.f kj20 t279 ([] : List Int) 0 8 false ((⟨#[47]⟩ : ByteArray) ++ a0) t282).bind fun bt285 => (if bt285.2 = 0 then (if (bt285.1.length : Int) = 1 then (if 0 < (bt285.1.length : Int) then (if ((rd_T41 bt285.1 0).f2) = 0 then (if (((rd_T41 bt285.1 0).f0.f2.f0) || (!((((rd_T41 bt285.1 0).f0.f2.f1).toList) == x8_20.toList) || (!(((rd_T41 bt285.1 0).f0.f2.f2) == 0) || (!(((rd_T41 bt285.1 0).f0.f2.f3) == 0))))) = true then (some false) else (laws_FnLineHome.l0 kj20 a0 a1 y267 (y267.length : Int) (wrap64 (x37_3 + 1)))) else (some false)) else (none)) else (some false)) else (some false)))) else (none))) = some r := by first | (rw [hy276]; with_reducible exact H) | (have H2_ := (Option.bind_some _ _).symm.trans H; rw [hy276]; with_reducible exact H2_) | (have H2_ := (Option.bind_some _ _).symm.trans H; with_reducible exact H2_) | with_reducible exact H | (rw [hy276]; exact H) | exact H
                                  have Ny276 := Aside0.mk hy276
                                  clear hy276
                                  replace H := Option.bind_eq_some_iff.mp H
                                  obtain ⟨t279, A260, H⟩ := H
                                  replace H : (if 1 + a0.size ≤ 9223372036854775807 then ((laws_nexts.f 1).bind fun t282 => ((impl_LineSteps.f kj20 t279 ([] : List Int) 0 8 false ((⟨#[47]⟩ : ByteArray) ++ a0) t282).bind fun bt285 => (if bt285.2 = 0 then (if (bt285.1.length : Int) = 1 then (if 0 < (bt285.1.length : Int) then (if ((rd_T41 bt285.1 0).f2) = 0 then (if (((rd_T41 bt285.1 0).f0.f2.f0) || (!((((rd_T41 bt285.1 0).f0.f2.f1).toList) == x8_20.toList) || (!(((rd_T41 bt285.1 0).f0.f2.f2) == 0) || (!(((rd_T41 bt285.1 0).f0.f2.f3) == 0))))) = true then (some false) else (laws_FnLineHome.l0 kj20 a0 a1 y267 (y267.length : Int) (wrap64 (x37_3 + 1)))) else (some false)) else (none)) else (some false)) else (some false)))) else (none)) = some r := H
                                  have A26 := Aside0.mk A260
                                  clear A260
                                  by_cases c27 : 1 + a0.size ≤ 9223372036854775807
                                  · rw [if_pos c27] at H
                                    have c27b0 := eq_true c27
                                    have c27b1 : decide (1 + a0.size ≤ 9223372036854775807) = true := decide_eq_true c27
                                    try have c27b2 : (9223372036854775807 < 1 + a0.size) = False := eq_false (Nat.not_lt.2 c27)
                                    replace H := Option.bind_eq_some_iff.mp H
                                    obtain ⟨t282, A280, H⟩ := H
                                    replace H : ((impl_LineSteps.f kj20 t279 ([] : List Int) 0 8 false ((⟨#[47]⟩ : ByteArray) ++ a0) t282).bind fun bt285 => (if bt285.2 = 0 then (if (bt285.1.length : Int) = 1 then (if 0 < (bt285.1.length : Int) then (if ((rd_T41 bt285.1 0).f2) = 0 then (if (((rd_T41 bt285.1 0).f0.f2.f0) || (!((((rd_T41 bt285.1 0).f0.f2.f1).toList) == x8_20.toList) || (!(((rd_T41 bt285.1 0).f0.f2.f2) == 0) || (!(((rd_T41 bt285.1 0).f0.f2.f3) == 0))))) = true then (some false) else (laws_FnLineHome.l0 kj20 a0 a1 y267 (y267.length : Int) (wrap64 (x37_3 + 1)))) else (some false)) else (none)) else (some false)) else (some false))) = some r := H
                                    have A28 := Aside0.mk A280
                                    clear A280
                                    replace H := Option.bind_eq_some_iff.mp H
                                    obtain ⟨⟨t285, t286⟩, A290, H⟩ := H
                                    replace H : (if t286 = 0 then (if (t285.length : Int) = 1 then (if 0 < (t285.length : Int) then (if ((rd_T41 t285 0).f2) = 0 then (if (((rd_T41 t285 0).f0.f2.f0) || (!((((rd_T41 t285 0).f0.f2.f1).toList) == x8_20.toList) || (!(((rd_T41 t285 0).f0.f2.f2) == 0) || (!(((rd_T41 t285 0).f0.f2.f3) == 0))))) = true then (some false) else (laws_FnLineHome.l0 kj20 a0 a1 y267 (y267.length : Int) (wrap64 (x37_3 + 1)))) else (some false)) else (none)) else (some false)) else (some false)) = some r := H
                                    have A29 := Aside0.mk A290
                                    clear A290
                                    by_cases c30 : t286 = 0
                                    · rw [if_pos c30] at H
                                      have c30b0 : (t286 == 0) = true := beq_iff_eq.mpr c30
                                      have c30b1 : (t286 != 0) = false := bne_eq_false_iff_eq.mpr c30
                                      clear c30
                                      by_cases c31 : (t285.length : Int) = 1
                                      · rw [if_pos c31] at H
                                        have c31b0 : ((t285.length : Int) == 1) = true := beq_iff_eq.mpr c31
                                        have c31b1 : ((t285.length : Int) != 1) = false := bne_eq_false_iff_eq.mpr c31
                                        clear c31
                                        by_cases c32 : 0 < (t285.length : Int)
                                        · rw [if_pos c32] at H
                                          have c32b0 : decide (0 < (t285.length : Int)) = true := decide_eq_true c32
                                          have c32b1 : decide (0 < t285.length) = true := decide_eq_true (by omega)
                                          clear c32
                                          by_cases c33 : ((rd_T41 t285 0).f2) = 0
                                          · rw [if_pos c33] at H
                                            have c33b0 : (((rd_T41 t285 0).f2) == 0) = true := beq_iff_eq.mpr c33
                                            have c33b1 : (((rd_T41 t285 0).f2) != 0) = false := bne_eq_false_iff_eq.mpr c33
                                            clear c33
                                            by_cases c34 : (((rd_T41 t285 0).f0.f2.f0) || (!((((rd_T41 t285 0).f0.f2.f1).toList) == x8_20.toList) || (!(((rd_T41 t285 0).f0.f2.f2) == 0) || (!(((rd_T41 t285 0).f0.f2.f3) == 0))))) = true
                                            · rw [if_pos c34] at H
                                              have c34b0 : (((rd_T41 t285 0).f0.f2.f0) || (!((((rd_T41 t285 0).f0.f2.f1).toList) == x8_20.toList) || (!(((rd_T41 t285 0).f0.f2.f2) == 0) || (!(((rd_T41 t285 0).f0.f2.f3) == 0))))) = true := c34
                                              clear c34
                                              obtain rfl := Option.some.inj H
                                              go_wp2_with (first | ((with_reducible refine gate_callee (f := 16) rfl ?_); refine goesL_ (some 53) rfl rfl Tryd.func16 (by kernel_rfl) rfl #[] rfl qL ?_; (with_reducible refine (laws_usual.calls  t271 t272 t273 t274 t275 _ A25.out).mono ?_); rintro e w35 ⟨rfl, hb⟩; refine ⟨_, rfl, ?_⟩; have n0_ := Aside0.mk (Kd.R_below (qR HO_35.out) hb); have n1_ := Aside0.mk (below_step qB hb); clear HO_35; clear HB; have HO_35 := n0_; have HB := n1_; clear n0_ n1_; (try clear hb); (try clear hb2); (try clear hk); (try clear hi)) | ((with_reducible refine gate_dst (N := 54) rfl ?_); (try (refine gate_guard (by rfl) ?_; dsimp only)); refine Kd.R_lit (Kd.int .u8) _ 5 ?hg (N := 54) ?hd (xs := ([1] : List Int)) (inner := [.int .u8 1]) (ok := fun _ => True) (okp := fun _ => True) ?hr ?hp (fun _ hk => hk) trivial (Below.refl _ _) (Nat.le_refl _) (by simp) ?_; (case hd => rfl); (case hg => rfl); (case hr => first | (go_simp; done) | (go_simp; rfl)); (case hp => exact (Reps.one (show Kd.M (Kd.int .u8) _ _ _ 1 [.int .u8 1] from rfl) (Reps.none _ _))); intro v277 w36 ho37 hb hg_ hnew_; clear hg_ hnew_; (first | rw [← Ny276.out] at ho37 | (simp only [Int.reduceToNat] at ho37; rw [← Ny276.out] at ho37)); have n0_ := Aside0.mk (Kd.R_below (qR HO_35.out) hb); have n1_ := Aside0.mk (Kd.R_lower ho37 (below_size qB)); have n2_ := Aside0.mk (below_step qB hb); clear HO_35; clear HB; have HO_35 := n0_; have HO278 := n1_; have HB := n2_; clear n0_ n1_ n2_; clear hb ho37; obtain ⟨Ao38, co38, eo38⟩ := Kd.R_slice HO278.out; subst eo38) | ((with_reducible refine gate_callee (f := 22) rfl ?_); refine goesL_ (some 56) rfl rfl Tryd.func22 (by kernel_rfl) rfl #[.agg #[.int .i64 t271, .int .i64 t272, .int .i64 t273, .int .i64 t274, .int .i64 t275], .int .u64 0, .slice Ao38 y276.length co38, .string x7_20] rfl qL ?_; (with_reducible refine (laws_named.calls kj20 t271 t272 t273 t274 t275 0 _ _ y276 x7_20 t279 _ ?side1 ?side2 A26.out).mono ?_); (case side1 => exact qC (Kd.R_reads' HO278.out).2.2); (case side2 => exact (Kd.R_reads' HO278.out).2.1); rintro e w39 ⟨v280, rfl, ho0, hb⟩; refine ⟨_, rfl, ?_⟩; have n0_ := Aside0.mk (Kd.R_below (qR HO_35.out) hb); have n1_ := Aside0.mk (Kd.R_elder' (qR HO278.out) (Kd.R_base ho0) hb); have n2_ := Aside0.mk (Kd.R_lower (Kd.R_new' ho0 (Kd.R_lt (qR HO278.out))) (below_size qB)); have n3_ := Aside0.mk (below_step qB hb); clear HO_35; clear HO278; clear HB; have HO_35 := n0_; have HO278 := n1_; have HO281 := n2_; have HB := n3_; clear n0_ n1_ n2_ n3_; (try clear hb); (try clear hb2); (try clear hk); (try clear hi); (try clear ho0)) | ((with_reducible refine gate_callee (f := 17) rfl ?_); refine goesL_ (some 59) rfl rfl Tryd.func17 (by kernel_rfl) rfl #[.int .i64 1] rfl qL ?_; (with_reducible refine (laws_nexts.calls 1 t282 _ A28.out).mono ?_); rintro e w40 ⟨v283, rfl, ho0, hb⟩; refine ⟨_, rfl, ?_⟩; have n0_ := Aside0.mk (Kd.R_below (qR HO_35.out) hb); have n1_ := Aside0.mk (Kd.R_below (qR HO278.out) hb); have n2_ := Aside0.mk (Kd.R_below (qR HO281.out) hb); have n3_ := Aside0.mk (Kd.R_lower ho0 (below_size qB)); have n4_ := Aside0.mk (below_step qB hb); clear HO_35; clear HO278; clear HO281; clear HB; have HO_35 := n0_; have HO278 := n1_; have HO281 := n2_; have HO284 := n3_; have HB := n4_; clear n0_ n1_ n2_ n3_ n4_; (try clear hb); (try clear hb2); (try clear hk); (try clear hi); (try clear ho0); obtain ⟨Ao41, co41, eo41⟩ := Kd.R_slice HO281.out; subst eo41; obtain ⟨Ao42, co42, eo42⟩ := Kd.R_slice HO284.out; subst eo42) | ((with_reducible refine gate_callee (f := 14) rfl ?_); refine goesL_ (some 60) rfl rfl Tryd.func14 (by kernel_rfl) rfl #[.slice Ao41 t279.length co41, .slice none 0 0, .int .i64 0, .int .i64 8, .bool false, .string ((⟨#[47]⟩ : ByteArray) ++ a0), .slice Ao42 t282.length co42] rfl qL ?_; (refine (impl_LineSteps.calls kj20 _ _ t279 _ _ ([] : List Int) 0 8 false ((⟨#[47]⟩ : ByteArray) ++ a0) _ _ t282 t285 t286 _ ?side1 ?side2 ?side3 ?side4 ?side5 ?side6 A29.out ?sideG).mono ?_); (case sideG => exact HGL.out.below qB); (case side1 => exact qC (Kd.R_reads' HO281.out).2.2); (case side2 => exact (Kd.R_reads' HO281.out).2.1); (case side3 => exact Kd.C_nil _ _); (case side4 => exact Nat.le_refl _); (case side5 => exact qC (Kd.R_reads' HO284.out).2.2); (case side6 => exact (Kd.R_reads' HO284.out).2.1); rintro e w43 ⟨v287, rfl, ho0, hb⟩; refine ⟨_, rfl, ?_⟩; have n0_ := Aside0.mk (Kd.R_below (qR HO_35.out) hb); have n1_ := Aside0.mk (Kd.R_below (qR HO278.out) hb); have n2_ := Aside0.mk (Kd.R_below (qR HO281.out) hb); have n3_ := Aside0.mk (Kd.R_below (qR HO284.out) hb); have n4_ := Aside0.mk (Kd.S_lower ho0 (below_size qB)); have n5_ := Aside0.mk (below_step qB hb); clear HO_35; clear HO278; clear HO281; clear HO284; clear HB; have HO_35 := n0_; have HO278 := n1_; have HO281 := n2_; have HO284 := n3_; have HO288 := n4_; have HB := n5_; clear n0_ n1_ n2_ n3_ n4_ n5_; (try clear hb); (try clear hb2); (try clear hk); (try clear hi); (try clear ho0); obtain ⟨Ao44, co44, eo44⟩ := Kd.S_slice HO288.out; subst eo44; have p289 : 0 ≤ (0 : Int) := (by omega); have q289 : 0 < (t285.length : Int) := of_decide_eq_true qA; obtain ⟨ad289, A289_15, c289_15, e289, hx289_0, hx289_1, hx289_2, hx289_3, hx289_4, hx289_5, hx289_6, hx289_7, hx289_8, hx289_9, hx289_10, hx289_11, hx289_12, hx289_13, hx289_14, hx289_15, hx289_16, hl289_15, hi289_15⟩ := at_T41 (Kd.S_reads' HO288.out).2.2 0 p289 q289; cases e289; obtain ⟨ce289, hce289, hMe289, hcc289⟩ := Kd.S_get HO288.out z41 0 p289 (by first | exact q289 | exact of_decide_eq_true qA | (have e_ := (Kd.S_reads' HO288.out).1; omega)); obtain ⟨ve289_15, rfl, ge289_15⟩ := k41_openM hMe289; have hv289_15 := hcc289 15 _ rfl; rw [add_field _ _ 15 (by omega)] at hv289_15; replace hv289_15 := Option.some.inj (hv289_15.symm.trans hx289_15); rw [hv289_15] at ge289_15; have HL289_15 := Aside0.mk (show Kd.R k36 36 _ _ _ _ ((rd_T41 t285 0).f1) from ge289_15); clear hv289_15 ge289_15; clear hcc289 hce289; have qi289 : (0 < t285.length) = True := eq_true (by omega); (try rw [show ((0 : Int)).toNat = 0 from rfl] at hx289_0); (try rw [show 0 * 17 = 0 from rfl] at hx289_0); (try rw [Addr.add_zero'] at hx289_0); (try rw [show ((0 : Int)).toNat = 0 from rfl] at hx289_1); (try rw [show 0 * 17 = 0 from rfl] at hx289_1); (try rw [Addr.add_zero'] at hx289_1); (try rw [show ((0 : Int)).toNat = 0 from rfl] at hx289_2); (try rw [show 0 * 17 = 0 from rfl] at hx289_2); (try rw [Addr.add_zero'] at hx289_2); (try rw [show ((0 : Int)).toNat = 0 from rfl] at hx289_3); (try rw [show 0 * 17 = 0 from rfl] at hx289_3); (try rw [Addr.add_zero'] at hx289_3); (try rw [show ((0 : Int)).toNat = 0 from rfl] at hx289_4); (try rw [show 0 * 17 = 0 from rfl] at hx289_4); (try rw [Addr.add_zero'] at hx289_4); (try rw [show ((0 : Int)).toNat = 0 from rfl] at hx289_5); (try rw [show 0 * 17 = 0 from rfl] at hx289_5); (try rw [Addr.add_zero'] at hx289_5); (try rw [show ((0 : Int)).toNat = 0 from rfl] at hx289_6); (try rw [show 0 * 17 = 0 from rfl] at hx289_6); (try rw [Addr.add_zero'] at hx289_6); (try rw [show ((0 : Int)).toNat = 0 from rfl] at hx289_7); (try rw [show 0 * 17 = 0 from rfl] at hx289_7); (try rw [Addr.add_zero'] at hx289_7); (try rw [show ((0 : Int)).toNat = 0 from rfl] at hx289_8); (try rw [show 0 * 17 = 0 from rfl] at hx289_8); (try rw [Addr.add_zero'] at hx289_8); (try rw [show ((0 : Int)).toNat = 0 from rfl] at hx289_9); (try rw [show 0 * 17 = 0 from rfl] at hx289_9); (try rw [Addr.add_zero'] at hx289_9); (try rw [show ((0 : Int)).toNat = 0 from rfl] at hx289_10); (try rw [show 0 * 17 = 0 from rfl] at hx289_10); (try rw [Addr.add_zero'] at hx289_10); (try rw [show ((0 : Int)).toNat = 0 from rfl] at hx289_11); (try rw [show 0 * 17 = 0 from rfl] at hx289_11); (try rw [Addr.add_zero'] at hx289_11); (try rw [show ((0 : Int)).toNat = 0 from rfl] at hx289_12); (try rw [show 0 * 17 = 0 from rfl] at hx289_12); (try rw [Addr.add_zero'] at hx289_12); (try rw [show ((0 : Int)).toNat = 0 from rfl] at hx289_13); (try rw [show 0 * 17 = 0 from rfl] at hx289_13); (try rw [Addr.add_zero'] at hx289_13); (try rw [show ((0 : Int)).toNat = 0 from rfl] at hx289_14); (try rw [show 0 * 17 = 0 from rfl] at hx289_14); (try rw [Addr.add_zero'] at hx289_14); (try rw [show ((0 : Int)).toNat = 0 from rfl] at hx289_15); (try rw [show 0 * 17 = 0 from rfl] at hx289_15); (try rw [Addr.add_zero'] at hx289_15); (try rw [show ((0 : Int)).toNat = 0 from rfl] at hx289_16); (try rw [show 0 * 17 = 0 from rfl] at hx289_16); (try rw [Addr.add_zero'] at hx289_16); have HR289_15 := Aside0.mk hi289_15; have HC289_15 := Aside0.mk hl289_15; clear hi289_15 hl289_15; replace p289 := eq_true p289; replace q289 := eq_true q289; have p290 : 0 ≤ (0 : Int) := (by omega); have q290 : 0 < (t285.length : Int) := of_decide_eq_true qA; obtain ⟨ad290, A290_15, c290_15, e290, hx290_0, hx290_1, hx290_2, hx290_3, hx290_4, hx290_5, hx290_6, hx290_7, hx290_8, hx290_9, hx290_10, hx290_11, hx290_12, hx290_13, hx290_14, hx290_15, hx290_16, hl290_15, hi290_15⟩ := at_T41 (Kd.S_reads' HO288.out).2.2 0 p290 q290; obtain rfl : ad289 = ad290 := (by injection e290); obtain ⟨ce290, hce290, hMe290, hcc290⟩ := Kd.S_get HO288.out z41 0 p290 (by first | exact q290 | exact of_decide_eq_true qA | (have e_ := (Kd.S_reads' HO288.out).1; omega)); obtain ⟨ve290_15, rfl, ge290_15⟩ := k41_openM hMe290; have hv290_15 := hcc290 15 _ rfl; rw [add_field _ _ 15 (by omega)] at hv290_15; replace hv290_15 := Option.some.inj (hv290_15.symm.trans hx290_15); rw [hv290_15] at ge290_15; have HL290_15 := Aside0.mk (show Kd.R k36 36 _ _ _ _ ((rd_T41 t285 0).f1) from ge290_15); clear hv290_15 ge290_15; clear hcc290 hce290; have qi290 : (0 < t285.length) = True := eq_true (by omega); (try rw [show ((0 : Int)).toNat = 0 from rfl] at hx290_0); (try rw [show 0 * 17 = 0 from rfl] at hx290_0); (try rw [Addr.add_zero'] at hx290_0); (try rw [show ((0 : Int)).toNat = 0 from rfl] at hx290_1); (try rw [show 0 * 17 = 0 from rfl] at hx290_1); (try rw [Addr.add_zero'] at hx290_1); (try rw [show ((0 : Int)).toNat = 0 from rfl] at hx290_2); (try rw [show 0 * 17 = 0 from rfl] at hx290_2); (try rw [Addr.add_zero'] at hx290_2); (try rw [show ((0 : Int)).toNat = 0 from rfl] at hx290_3); (try rw [show 0 * 17 = 0 from rfl] at hx290_3); (try rw [Addr.add_zero'] at hx290_3); (try rw [show ((0 : Int)).toNat = 0 from rfl] at hx290_4); (try rw [show 0 * 17 = 0 from rfl] at hx290_4); (try rw [Addr.add_zero'] at hx290_4); (try rw [show ((0 : Int)).toNat = 0 from rfl] at hx290_5); (try rw [show 0 * 17 = 0 from rfl] at hx290_5); (try rw [Addr.add_zero'] at hx290_5); (try rw [show ((0 : Int)).toNat = 0 from rfl] at hx290_6); (try rw [show 0 * 17 = 0 from rfl] at hx290_6); (try rw [Addr.add_zero'] at hx290_6); (try rw [show ((0 : Int)).toNat = 0 from rfl] at hx290_7); (try rw [show 0 * 17 = 0 from rfl] at hx290_7); (try rw [Addr.add_zero'] at hx290_7); (try rw [show ((0 : Int)).toNat = 0 from rfl] at hx290_8); (try rw [show 0 * 17 = 0 from rfl] at hx290_8); (try rw [Addr.add_zero'] at hx290_8); (try rw [show ((0 : Int)).toNat = 0 from rfl] at hx290_9); (try rw [show 0 * 17 = 0 from rfl] at hx290_9); (try rw [Addr.add_zero'] at hx290_9); (try rw [show ((0 : Int)).toNat = 0 from rfl] at hx290_10); (try rw [show 0 * 17 = 0 from rfl] at hx290_10); (try rw [Addr.add_zero'] at hx290_10); (try rw [show ((0 : Int)).toNat = 0 from rfl] at hx290_11); (try rw [show 0 * 17 = 0 from rfl] at hx290_11); (try rw [Addr.add_zero'] at hx290_11); (try rw [show ((0 : Int)).toNat = 0 from rfl] at hx290_12); (try rw [show 0 * 17 = 0 from rfl] at hx290_12); (try rw [Addr.add_zero'] at hx290_12); (try rw [show ((0 : Int)).toNat = 0 from rfl] at hx290_13); (try rw [show 0 * 17 = 0 from rfl] at hx290_13); (try rw [Addr.add_zero'] at hx290_13); (try rw [show ((0 : Int)).toNat = 0 from rfl] at hx290_14); (try rw [show 0 * 17 = 0 from rfl] at hx290_14); (try rw [Addr.add_zero'] at hx290_14); (try rw [show ((0 : Int)).toNat = 0 from rfl] at hx290_15); (try rw [show 0 * 17 = 0 from rfl] at hx290_15); (try rw [Addr.add_zero'] at hx290_15); (try rw [show ((0 : Int)).toNat = 0 from rfl] at hx290_16); (try rw [show 0 * 17 = 0 from rfl] at hx290_16); (try rw [Addr.add_zero'] at hx290_16); have HR290_15 := Aside0.mk hi290_15; have HC290_15 := Aside0.mk hl290_15; clear hi290_15 hl290_15; replace p290 := eq_true p290; replace q290 := eq_true q290; have ea_ := Option.some.inj (hx289_15.symm.trans hx290_15); injection ea_ with ea_ en_ ec_; subst ea_; subst ec_; clear en_))
                                              go_ret
                                              exact ⟨by first | rfl | (simp [errW_none, errW_some] <;> rfl) | (simp [*, errW_none, errW_some] <;> rfl), by repeat (first | (with_reducible first | exact HB.out | apply below_alloc | apply pw_below_drewN | apply below_drew1) | exact HB.out)⟩
                                            · rw [if_neg c34] at H
                                              have c34b0 : (((rd_T41 t285 0).f0.f2.f0) || (!((((rd_T41 t285 0).f0.f2.f1).toList) == x8_20.toList) || (!(((rd_T41 t285 0).f0.f2.f2) == 0) || (!(((rd_T41 t285 0).f0.f2.f3) == 0))))) = false := by simpa using c34
                                              clear c34
                                              have H' := Aside0.mk H
                                              clear H
                                              go_wp2_with (first | ((with_reducible refine gate_callee (f := 16) rfl ?_); refine goesL_ (some 53) rfl rfl Tryd.func16 (by kernel_rfl) rfl #[] rfl qL ?_; (with_reducible refine (laws_usual.calls  t271 t272 t273 t274 t275 _ A25.out).mono ?_); rintro e w45 ⟨rfl, hb⟩; refine ⟨_, rfl, ?_⟩; have n0_ := Aside0.mk (Kd.R_below (qR HO_35.out) hb); have n1_ := Aside0.mk (below_step qB hb); clear HO_35; clear HB; have HO_35 := n0_; have HB := n1_; clear n0_ n1_; (try clear hb); (try clear hb2); (try clear hk); (try clear hi)) | ((with_reducible refine gate_dst (N := 54) rfl ?_); (try (refine gate_guard (by rfl) ?_; dsimp only)); refine Kd.R_lit (Kd.int .u8) _ 5 ?hg (N := 54) ?hd (xs := ([1] : List Int)) (inner := [.int .u8 1]) (ok := fun _ => True) (okp := fun _ => True) ?hr ?hp (fun _ hk => hk) trivial (Below.refl _ _) (Nat.le_refl _) (by simp) ?_; (case hd => rfl); (case hg => rfl); (case hr => first | (go_simp; done) | (go_simp; rfl)); (case hp => exact (Reps.one (show Kd.M (Kd.int .u8) _ _ _ 1 [.int .u8 1] from rfl) (Reps.none _ _))); intro v277 w46 ho47 hb hg_ hnew_; clear hg_ hnew_; (first | rw [← Ny276.out] at ho47 | (simp only [Int.reduceToNat] at ho47; rw [← Ny276.out] at ho47)); have n0_ := Aside0.mk (Kd.R_below (qR HO_35.out) hb); have n1_ := Aside0.mk (Kd.R_lower ho47 (below_size qB)); have n2_ := Aside0.mk (below_step qB hb); clear HO_35; clear HB; have HO_35 := n0_; have HO278 := n1_; have HB := n2_; clear n0_ n1_ n2_; clear hb ho47; obtain ⟨Ao48, co48, eo48⟩ := Kd.R_slice HO278.out; subst eo48) | ((with_reducible refine gate_callee (f := 22) rfl ?_); refine goesL_ (some 56) rfl rfl Tryd.func22 (by kernel_rfl) rfl #[.agg #[.int .i64 t271, .int .i64 t272, .int .i64 t273, .int .i64 t274, .int .i64 t275], .int .u64 0, .slice Ao48 y276.length co48, .string x7_20] rfl qL ?_; (with_reducible refine (laws_named.calls kj20 t271 t272 t273 t274 t275 0 _ _ y276 x7_20 t279 _ ?side1 ?side2 A26.out).mono ?_); (case side1 => exact qC (Kd.R_reads' HO278.out).2.2); (case side2 => exact (Kd.R_reads' HO278.out).2.1); rintro e w49 ⟨v280, rfl, ho0, hb⟩; refine ⟨_, rfl, ?_⟩; have n0_ := Aside0.mk (Kd.R_below (qR HO_35.out) hb); have n1_ := Aside0.mk (Kd.R_elder' (qR HO278.out) (Kd.R_base ho0) hb); have n2_ := Aside0.mk (Kd.R_lower (Kd.R_new' ho0 (Kd.R_lt (qR HO278.out))) (below_size qB)); have n3_ := Aside0.mk (below_step qB hb); clear HO_35; clear HO278; clear HB; have HO_35 := n0_; have HO278 := n1_; have HO281 := n2_; have HB := n3_; clear n0_ n1_ n2_ n3_; (try clear hb); (try clear hb2); (try clear hk); (try clear hi); (try clear ho0)) | ((with_reducible refine gate_callee (f := 17) rfl ?_); refine goesL_ (some 59) rfl rfl Tryd.func17 (by kernel_rfl) rfl #[.int .i64 1] rfl qL ?_; (with_reducible refine (laws_nexts.calls 1 t282 _ A28.out).mono ?_); rintro e w50 ⟨v283, rfl, ho0, hb⟩; refine ⟨_, rfl, ?_⟩; have n0_ := Aside0.mk (Kd.R_below (qR HO_35.out) hb); have n1_ := Aside0.mk (Kd.R_below (qR HO278.out) hb); have n2_ := Aside0.mk (Kd.R_below (qR HO281.out) hb); have n3_ := Aside0.mk (Kd.R_lower ho0 (below_size qB)); have n4_ := Aside0.mk (below_step qB hb); clear HO_35; clear HO278; clear HO281; clear HB; have HO_35 := n0_; have HO278 := n1_; have HO281 := n2_; have HO284 := n3_; have HB := n4_; clear n0_ n1_ n2_ n3_ n4_; (try clear hb); (try clear hb2); (try clear hk); (try clear hi); (try clear ho0); obtain ⟨Ao51, co51, eo51⟩ := Kd.R_slice HO281.out; subst eo51; obtain ⟨Ao52, co52, eo52⟩ := Kd.R_slice HO284.out; subst eo52) | ((with_reducible refine gate_callee (f := 14) rfl ?_); refine goesL_ (some 60) rfl rfl Tryd.func14 (by kernel_rfl) rfl #[.slice Ao51 t279.length co51, .slice none 0 0, .int .i64 0, .int .i64 8, .bool false, .string ((⟨#[47]⟩ : ByteArray) ++ a0), .slice Ao52 t282.length co52] rfl qL ?_; (refine (impl_LineSteps.calls kj20 _ _ t279 _ _ ([] : List Int) 0 8 false ((⟨#[47]⟩ : ByteArray) ++ a0) _ _ t282 t285 t286 _ ?side1 ?side2 ?side3 ?side4 ?side5 ?side6 A29.out ?sideG).mono ?_); (case sideG => exact HGL.out.below qB); (case side1 => exact qC (Kd.R_reads' HO281.out).2.2); (case side2 => exact (Kd.R_reads' HO281.out).2.1); (case side3 => exact Kd.C_nil _ _); (case side4 => exact Nat.le_refl _); (case side5 => exact qC (Kd.R_reads' HO284.out).2.2); (case side6 => exact (Kd.R_reads' HO284.out).2.1); rintro e w53 ⟨v287, rfl, ho0, hb⟩; refine ⟨_, rfl, ?_⟩; have n0_ := Aside0.mk (Kd.R_below (qR HO_35.out) hb); have n1_ := Aside0.mk (Kd.R_below (qR HO278.out) hb); have n2_ := Aside0.mk (Kd.R_below (qR HO281.out) hb); have n3_ := Aside0.mk (Kd.R_below (qR HO284.out) hb); have n4_ := Aside0.mk (Kd.S_lower ho0 (below_size qB)); have n5_ := Aside0.mk (below_step qB hb); clear HO_35; clear HO278; clear HO281; clear HO284; clear HB; have HO_35 := n0_; have HO278 := n1_; have HO281 := n2_; have HO284 := n3_; have HO288 := n4_; have HB := n5_; clear n0_ n1_ n2_ n3_ n4_ n5_; (try clear hb); (try clear hb2); (try clear hk); (try clear hi); (try clear ho0); obtain ⟨Ao54, co54, eo54⟩ := Kd.S_slice HO288.out; subst eo54; have p289 : 0 ≤ (0 : Int) := (by omega); have q289 : 0 < (t285.length : Int) := of_decide_eq_true qA; obtain ⟨ad289, A289_15, c289_15, e289, hx289_0, hx289_1, hx289_2, hx289_3, hx289_4, hx289_5, hx289_6, hx289_7, hx289_8, hx289_9, hx289_10, hx289_11, hx289_12, hx289_13, hx289_14, hx289_15, hx289_16, hl289_15, hi289_15⟩ := at_T41 (Kd.S_reads' HO288.out).2.2 0 p289 q289; cases e289; obtain ⟨ce289, hce289, hMe289, hcc289⟩ := Kd.S_get HO288.out z41 0 p289 (by first | exact q289 | exact of_decide_eq_true qA | (have e_ := (Kd.S_reads' HO288.out).1; omega)); obtain ⟨ve289_15, rfl, ge289_15⟩ := k41_openM hMe289; have hv289_15 := hcc289 15 _ rfl; rw [add_field _ _ 15 (by omega)] at hv289_15; replace hv289_15 := Option.some.inj (hv289_15.symm.trans hx289_15); rw [hv289_15] at ge289_15; have HL289_15 := Aside0.mk (show Kd.R k36 36 _ _ _ _ ((rd_T41 t285 0).f1) from ge289_15); clear hv289_15 ge289_15; clear hcc289 hce289; have qi289 : (0 < t285.length) = True := eq_true (by omega); (try rw [show ((0 : Int)).toNat = 0 from rfl] at hx289_0); (try rw [show 0 * 17 = 0 from rfl] at hx289_0); (try rw [Addr.add_zero'] at hx289_0); (try rw [show ((0 : Int)).toNat = 0 from rfl] at hx289_1); (try rw [show 0 * 17 = 0 from rfl] at hx289_1); (try rw [Addr.add_zero'] at hx289_1); (try rw [show ((0 : Int)).toNat = 0 from rfl] at hx289_2); (try rw [show 0 * 17 = 0 from rfl] at hx289_2); (try rw [Addr.add_zero'] at hx289_2); (try rw [show ((0 : Int)).toNat = 0 from rfl] at hx289_3); (try rw [show 0 * 17 = 0 from rfl] at hx289_3); (try rw [Addr.add_zero'] at hx289_3); (try rw [show ((0 : Int)).toNat = 0 from rfl] at hx289_4); (try rw [show 0 * 17 = 0 from rfl] at hx289_4); (try rw [Addr.add_zero'] at hx289_4); (try rw [show ((0 : Int)).toNat = 0 from rfl] at hx289_5); (try rw [show 0 * 17 = 0 from rfl] at hx289_5); (try rw [Addr.add_zero'] at hx289_5); (try rw [show ((0 : Int)).toNat = 0 from rfl] at hx289_6); (try rw [show 0 * 17 = 0 from rfl] at hx289_6); (try rw [Addr.add_zero'] at hx289_6); (try rw [show ((0 : Int)).toNat = 0 from rfl] at hx289_7); (try rw [show 0 * 17 = 0 from rfl] at hx289_7); (try rw [Addr.add_zero'] at hx289_7); (try rw [show ((0 : Int)).toNat = 0 from rfl] at hx289_8); (try rw [show 0 * 17 = 0 from rfl] at hx289_8); (try rw [Addr.add_zero'] at hx289_8); (try rw [show ((0 : Int)).toNat = 0 from rfl] at hx289_9); (try rw [show 0 * 17 = 0 from rfl] at hx289_9); (try rw [Addr.add_zero'] at hx289_9); (try rw [show ((0 : Int)).toNat = 0 from rfl] at hx289_10); (try rw [show 0 * 17 = 0 from rfl] at hx289_10); (try rw [Addr.add_zero'] at hx289_10); (try rw [show ((0 : Int)).toNat = 0 from rfl] at hx289_11); (try rw [show 0 * 17 = 0 from rfl] at hx289_11); (try rw [Addr.add_zero'] at hx289_11); (try rw [show ((0 : Int)).toNat = 0 from rfl] at hx289_12); (try rw [show 0 * 17 = 0 from rfl] at hx289_12); (try rw [Addr.add_zero'] at hx289_12); (try rw [show ((0 : Int)).toNat = 0 from rfl] at hx289_13); (try rw [show 0 * 17 = 0 from rfl] at hx289_13); (try rw [Addr.add_zero'] at hx289_13); (try rw [show ((0 : Int)).toNat = 0 from rfl] at hx289_14); (try rw [show 0 * 17 = 0 from rfl] at hx289_14); (try rw [Addr.add_zero'] at hx289_14); (try rw [show ((0 : Int)).toNat = 0 from rfl] at hx289_15); (try rw [show 0 * 17 = 0 from rfl] at hx289_15); (try rw [Addr.add_zero'] at hx289_15); (try rw [show ((0 : Int)).toNat = 0 from rfl] at hx289_16); (try rw [show 0 * 17 = 0 from rfl] at hx289_16); (try rw [Addr.add_zero'] at hx289_16); have HR289_15 := Aside0.mk hi289_15; have HC289_15 := Aside0.mk hl289_15; clear hi289_15 hl289_15; replace p289 := eq_true p289; replace q289 := eq_true q289; have p290 : 0 ≤ (0 : Int) := (by omega); have q290 : 0 < (t285.length : Int) := of_decide_eq_true qA; obtain ⟨ad290, A290_15, c290_15, e290, hx290_0, hx290_1, hx290_2, hx290_3, hx290_4, hx290_5, hx290_6, hx290_7, hx290_8, hx290_9, hx290_10, hx290_11, hx290_12, hx290_13, hx290_14, hx290_15, hx290_16, hl290_15, hi290_15⟩ := at_T41 (Kd.S_reads' HO288.out).2.2 0 p290 q290; obtain rfl : ad289 = ad290 := (by injection e290); obtain ⟨ce290, hce290, hMe290, hcc290⟩ := Kd.S_get HO288.out z41 0 p290 (by first | exact q290 | exact of_decide_eq_true qA | (have e_ := (Kd.S_reads' HO288.out).1; omega)); obtain ⟨ve290_15, rfl, ge290_15⟩ := k41_openM hMe290; have hv290_15 := hcc290 15 _ rfl; rw [add_field _ _ 15 (by omega)] at hv290_15; replace hv290_15 := Option.some.inj (hv290_15.symm.trans hx290_15); rw [hv290_15] at ge290_15; have HL290_15 := Aside0.mk (show Kd.R k36 36 _ _ _ _ ((rd_T41 t285 0).f1) from ge290_15); clear hv290_15 ge290_15; clear hcc290 hce290; have qi290 : (0 < t285.length) = True := eq_true (by omega); (try rw [show ((0 : Int)).toNat = 0 from rfl] at hx290_0); (try rw [show 0 * 17 = 0 from rfl] at hx290_0); (try rw [Addr.add_zero'] at hx290_0); (try rw [show ((0 : Int)).toNat = 0 from rfl] at hx290_1); (try rw [show 0 * 17 = 0 from rfl] at hx290_1); (try rw [Addr.add_zero'] at hx290_1); (try rw [show ((0 : Int)).toNat = 0 from rfl] at hx290_2); (try rw [show 0 * 17 = 0 from rfl] at hx290_2); (try rw [Addr.add_zero'] at hx290_2); (try rw [show ((0 : Int)).toNat = 0 from rfl] at hx290_3); (try rw [show 0 * 17 = 0 from rfl] at hx290_3); (try rw [Addr.add_zero'] at hx290_3); (try rw [show ((0 : Int)).toNat = 0 from rfl] at hx290_4); (try rw [show 0 * 17 = 0 from rfl] at hx290_4); (try rw [Addr.add_zero'] at hx290_4); (try rw [show ((0 : Int)).toNat = 0 from rfl] at hx290_5); (try rw [show 0 * 17 = 0 from rfl] at hx290_5); (try rw [Addr.add_zero'] at hx290_5); (try rw [show ((0 : Int)).toNat = 0 from rfl] at hx290_6); (try rw [show 0 * 17 = 0 from rfl] at hx290_6); (try rw [Addr.add_zero'] at hx290_6); (try rw [show ((0 : Int)).toNat = 0 from rfl] at hx290_7); (try rw [show 0 * 17 = 0 from rfl] at hx290_7); (try rw [Addr.add_zero'] at hx290_7); (try rw [show ((0 : Int)).toNat = 0 from rfl] at hx290_8); (try rw [show 0 * 17 = 0 from rfl] at hx290_8); (try rw [Addr.add_zero'] at hx290_8); (try rw [show ((0 : Int)).toNat = 0 from rfl] at hx290_9); (try rw [show 0 * 17 = 0 from rfl] at hx290_9); (try rw [Addr.add_zero'] at hx290_9); (try rw [show ((0 : Int)).toNat = 0 from rfl] at hx290_10); (try rw [show 0 * 17 = 0 from rfl] at hx290_10); (try rw [Addr.add_zero'] at hx290_10); (try rw [show ((0 : Int)).toNat = 0 from rfl] at hx290_11); (try rw [show 0 * 17 = 0 from rfl] at hx290_11); (try rw [Addr.add_zero'] at hx290_11); (try rw [show ((0 : Int)).toNat = 0 from rfl] at hx290_12); (try rw [show 0 * 17 = 0 from rfl] at hx290_12); (try rw [Addr.add_zero'] at hx290_12); (try rw [show ((0 : Int)).toNat = 0 from rfl] at hx290_13); (try rw [show 0 * 17 = 0 from rfl] at hx290_13); (try rw [Addr.add_zero'] at hx290_13); (try rw [show ((0 : Int)).toNat = 0 from rfl] at hx290_14); (try rw [show 0 * 17 = 0 from rfl] at hx290_14); (try rw [Addr.add_zero'] at hx290_14); (try rw [show ((0 : Int)).toNat = 0 from rfl] at hx290_15); (try rw [show 0 * 17 = 0 from rfl] at hx290_15); (try rw [Addr.add_zero'] at hx290_15); (try rw [show ((0 : Int)).toNat = 0 from rfl] at hx290_16); (try rw [show 0 * 17 = 0 from rfl] at hx290_16); (try rw [Addr.add_zero'] at hx290_16); have HR290_15 := Aside0.mk hi290_15; have HC290_15 := Aside0.mk hl290_15; clear hi290_15 hl290_15; replace p290 := eq_true p290; replace q290 := eq_true q290; have ea_ := Option.some.inj (hx289_15.symm.trans hx290_15); injection ea_ with ea_ en_ ec_; subst ea_; subst ec_; clear en_))
                                              go_roundg kj20
                                              case measure => have := HJ2.out; have := HJ5.out; have := HK3.out; have := HJ20.out; omega
                                              case rel => exact ⟨(wrap64 (x37_3 + 1)), (by first | rfl | (simp; done) | (simp [*]; done)), H', ⟨by have := HJ2.out; have := HJ5.out; have := HK3.out; have := HJ20.out; omega⟩, ⟨by (with_reducible repeat (first | apply Kd.R_alloc | apply Kd.R_drewN | apply Kd.R_drew)); exact HO_35.out⟩, ⟨by repeat (first | (with_reducible first | exact HB.out | apply below_alloc | apply pw_below_drewN | apply below_drew1) | exact HB.out)⟩⟩
                                          · rw [if_neg c33] at H
                                            have c33b0 : (((rd_T41 t285 0).f2) == 0) = false := beq_eq_false_iff_ne.mpr c33
                                            have c33b1 : (((rd_T41 t285 0).f2) != 0) = true := bne_iff_ne.mpr c33
                                            exact absurd (Option.some.inj H) (by rw [HRT.out]; decide)
                                        · rw [if_neg c32] at H
                                          exact absurd H (by simp)
                                      · rw [if_neg c31] at H
                                        have c31b0 : ((t285.length : Int) == 1) = false := beq_eq_false_iff_ne.mpr c31
                                        have c31b1 : ((t285.length : Int) != 1) = true := bne_iff_ne.mpr c31
                                        exact absurd (Option.some.inj H) (by rw [HRT.out]; decide)
                                    · rw [if_neg c30] at H
                                      have c30b0 : (t286 == 0) = false := beq_eq_false_iff_ne.mpr c30
                                      have c30b1 : (t286 != 0) = true := bne_iff_ne.mpr c30
                                      exact absurd (Option.some.inj H) (by rw [HRT.out]; decide)
                                  · rw [if_neg c27] at H
                                    exact absurd H (by simp)
                            · rw [if_neg c20] at H
                              exact absurd H (by simp)
                          · rw [if_neg c19] at H
                            exact absurd H (by simp)
                        · rw [if_neg c18] at H
                          exact absurd H (by simp)
                      · rw [if_neg c17] at H
                        exact absurd H (by simp)
                    · rw [if_neg c16] at H
                      exact absurd H (by simp)
                  · rw [if_neg c15] at H
                    have c15b0 : decide (x37_3 < (y267.length : Int)) = false := decide_eq_false c15
                    clear c15
                    obtain rfl := Option.some.inj H
                    go_wp2
                    go_ret
                    exact ⟨by first | rfl | (simp [errW_none, errW_some] <;> rfl) | (simp [*, errW_none, errW_some] <;> rfl), by repeat (first | (with_reducible first | exact HB.out | apply below_alloc | apply pw_below_drewN | apply below_drew1) | exact HB.out)⟩

/-- THE ONE PURE STATEMENT of laws_FnLineHome: yours. -/
def laws_FnLineHome.Pure : Prop := ∀ (a0 : ByteArray) (a1 : ByteArray), a0.size ≤ 140737488351232 → a1.size ≤ 140737488351232 → ∃ k, laws_FnLineHome.f k a0 a1 = some true
theorem laws_FnLineHome.walk (P : laws_FnLineHome.Pure) (a0 : ByteArray) (a1 : ByteArray) (w : World) (w0 : a0.size ≤ 140737488351232) (w1 : a1.size ≤ 140737488351232) (hG : Glob w) :
    Calls Tryd.prog 6 #[.string a0, .string a1] w fun e w' => e = .returned (.bool true) ∧ Below w.heap.size w w' := by
  obtain ⟨k, h⟩ := P a0 a1 w0 w1
  refine (laws_FnLineHome.calls k a0 a1 true w h hG rfl).mono ?_
  rintro e w' ⟨rfl, hd⟩
  exact ⟨rfl, hd⟩
end Go.Proofs.YtdepfipebogdcaaDoor.PPl
