-- Printed by a program of this session (mkprint.py over the kit's print.py)
import Derived.Test.YtepealmdnaondaaDoorPSplx0
import Derived.Test.YtepealmdnaondaaDoorPSplx1
import Derived.Test.YtepealmdnaondaaDoorGIdx
namespace Go.Proofs.YtepealmdnaondaaDoor.PSpl
open Go.RowKit Go.Proofs.YtepealmdnaondaaDoorW.PrintWords Go.Proofs.YtepealmdnaondaaDoorW.PrintLast Go.Proofs.YtepealmdnaondaaDoorW.PrintMore Go.Proofs.YtepealmdnaondaaDoor.Given
attribute [local go_sem] max2_int min2_int max_two min_two max_three min_three max_four min_four   -- for this text's walks alone
set_option linter.unusedVariables false
set_option linter.unusedSimpArgs false

/-! ### dwarf_splitDrive: function 8 -/
mutual
def dwarf_splitDrive.j0 : Nat → ByteArray → Bool → Option (ByteArray × ByteArray)
  | 0, _, _ => none
  | k + 1, x0, x15 => if x15 = true then (if 0 < (x0.size : Int) then (if 97 ≤ (bt x0 0) then (if (bt x0 0) ≤ 122 then (if 0 ≤ 2 then (if 2 ≤ (x0.size : Int) then (some (x0.extract 0 2, x0.extract 2 x0.size)) else (none)) else (none)) else (if 65 ≤ (bt x0 0) then (if (bt x0 0) ≤ 90 then (if 0 ≤ 2 then (if 2 ≤ (x0.size : Int) then (some (x0.extract 0 2, x0.extract 2 x0.size)) else (none)) else (none)) else (dwarf_splitDrive.j1 k x0)) else (dwarf_splitDrive.j1 k x0))) else (if 65 ≤ (bt x0 0) then (if (bt x0 0) ≤ 90 then (if 0 ≤ 2 then (if 2 ≤ (x0.size : Int) then (some (x0.extract 0 2, x0.extract 2 x0.size)) else (none)) else (none)) else (dwarf_splitDrive.j1 k x0)) else (dwarf_splitDrive.j1 k x0))) else (none)) else (dwarf_splitDrive.j1 k x0)
def dwarf_splitDrive.j1 : Nat → ByteArray → Option (ByteArray × ByteArray)
  | 0, _ => none
  | k + 1, x0 => if (x0.size : Int) > 3 then (if 0 < (x0.size : Int) then (if (bt x0 0) = 92 then (if 1 < (x0.size : Int) then (if (bt x0 1) = 92 then (dwarf_splitDrive.j2 k x0 true) else (dwarf_splitDrive.j2 k x0 ((bt x0 1) == 47))) else (none)) else (if (bt x0 0) = 47 then (if 1 < (x0.size : Int) then (if (bt x0 1) = 92 then (dwarf_splitDrive.j2 k x0 true) else (dwarf_splitDrive.j2 k x0 ((bt x0 1) == 47))) else (none)) else (dwarf_splitDrive.j2 k x0 false))) else (none)) else (dwarf_splitDrive.j2 k x0 false)
def dwarf_splitDrive.j2 : Nat → ByteArray → Bool → Option (ByteArray × ByteArray)
  | 0, _, _ => none
  | k + 1, x0, x58 => if x58 = true then ((dwarf_zzReplaceAll.f k x0 (⟨#[47]⟩ : ByteArray) (⟨#[92]⟩ : ByteArray)).bind fun t111 => (if 2 ≤ (t111.size : Int) then ((strings_IndexByte.f (t111.extract 2 t111.size) 92).bind fun t112 => (if (wrap64 (t112 + 2)) > 2 then (if 0 ≤ (wrap64 ((wrap64 (t112 + 2)) + 1)) then (if (wrap64 ((wrap64 (t112 + 2)) + 1)) ≤ (t111.size : Int) then ((strings_IndexByte.f (t111.extract ((wrap64 ((wrap64 (t112 + 2)) + 1)) : Int).toNat t111.size) 92).bind fun t113 => (if (wrap64 ((wrap64 (t113 + (wrap64 (t112 + 2)))) + 1)) > (wrap64 (t112 + 2)) then (if 0 ≤ (wrap64 ((wrap64 (t113 + (wrap64 (t112 + 2)))) + 1)) then (if (wrap64 ((wrap64 (t113 + (wrap64 (t112 + 2)))) + 1)) ≤ (x0.size : Int) then (some (x0.extract 0 ((wrap64 ((wrap64 (t113 + (wrap64 (t112 + 2)))) + 1)) : Int).toNat, x0.extract ((wrap64 ((wrap64 (t113 + (wrap64 (t112 + 2)))) + 1)) : Int).toNat x0.size)) else (none)) else (none)) else (some ((⟨#[]⟩ : ByteArray), x0)))) else (none)) else (none)) else (some ((⟨#[]⟩ : ByteArray), x0)))) else (none))) else (some ((⟨#[]⟩ : ByteArray), x0))
end
def dwarf_splitDrive.f (k : Nat) (a0 : ByteArray) : Option (ByteArray × ByteArray) := if (a0.size : Int) ≥ 2 then (if 1 < (a0.size : Int) then (dwarf_splitDrive.j0 k a0 ((bt a0 1) == 58)) else (none)) else (dwarf_splitDrive.j0 k a0 false)
theorem dwarf_splitDrive.mono_l : ∀ k, (∀ y0 y1, LeO (dwarf_splitDrive.j0 k y0 y1) (dwarf_splitDrive.j0 (k + 1) y0 y1)) ∧ (∀ y0, LeO (dwarf_splitDrive.j1 k y0) (dwarf_splitDrive.j1 (k + 1) y0)) ∧ (∀ y0 y1, LeO (dwarf_splitDrive.j2 k y0 y1) (dwarf_splitDrive.j2 (k + 1) y0 y1))
  | 0 => ⟨fun _ _ r h => by simp [dwarf_splitDrive.j0] at h, fun _ r h => by simp [dwarf_splitDrive.j1] at h, fun _ _ r h => by simp [dwarf_splitDrive.j2] at h⟩
  | k + 1 => by
    obtain ⟨ih0, ih1, ih2⟩ := dwarf_splitDrive.mono_l k
    refine ⟨?_, ?_, ?_⟩
    · intro y0 y1
      unfold dwarf_splitDrive.j0
      repeat' first
      | (with_reducible exact ih0 _ _)
      | (with_reducible exact ih1 _)
      | (with_reducible exact ih2 _ _)
      | (with_reducible exact dwarf_zzReplaceAll.mono _ _ _ _)
      | (with_reducible exact LeO.refl _)
      | (with_reducible exact LeO.none _)
      | (with_reducible refine LeO.ite ?_ ?_)
      | (with_reducible refine LeO.bind ?_ (fun _ => ?_))
      | exact ih0 _ _
      | exact ih1 _
      | exact ih2 _ _
      | exact dwarf_zzReplaceAll.mono _ _ _ _
      | exact LeO.none _
      | refine LeO.ite ?_ ?_
      | refine LeO.bind ?_ (fun _ => ?_)
    · intro y0
      unfold dwarf_splitDrive.j1
      repeat' first
      | (with_reducible exact ih0 _ _)
      | (with_reducible exact ih1 _)
      | (with_reducible exact ih2 _ _)
      | (with_reducible exact dwarf_zzReplaceAll.mono _ _ _ _)
      | (with_reducible exact LeO.refl _)
      | (with_reducible exact LeO.none _)
      | (with_reducible refine LeO.ite ?_ ?_)
      | (with_reducible refine LeO.bind ?_ (fun _ => ?_))
      | exact ih0 _ _
      | exact ih1 _
      | exact ih2 _ _
      | exact dwarf_zzReplaceAll.mono _ _ _ _
      | exact LeO.none _
      | refine LeO.ite ?_ ?_
      | refine LeO.bind ?_ (fun _ => ?_)
    · intro y0 y1
      unfold dwarf_splitDrive.j2
      repeat' first
      | (with_reducible exact ih0 _ _)
      | (with_reducible exact ih1 _)
      | (with_reducible exact ih2 _ _)
      | (with_reducible exact dwarf_zzReplaceAll.mono _ _ _ _)
      | (with_reducible exact LeO.refl _)
      | (with_reducible exact LeO.none _)
      | (with_reducible refine LeO.ite ?_ ?_)
      | (with_reducible refine LeO.bind ?_ (fun _ => ?_))
      | exact ih0 _ _
      | exact ih1 _
      | exact ih2 _ _
      | exact dwarf_zzReplaceAll.mono _ _ _ _
      | exact LeO.none _
      | refine LeO.ite ?_ ?_
      | refine LeO.bind ?_ (fun _ => ?_)
theorem dwarf_splitDrive.mono : ∀ a0 k, LeO (dwarf_splitDrive.f k a0) (dwarf_splitDrive.f (k + 1) a0) := by
  intro a0 k
  obtain ⟨ih0, ih1, ih2⟩ := dwarf_splitDrive.mono_l k
  unfold dwarf_splitDrive.f
  repeat' first
      | (with_reducible exact ih0 _ _)
      | (with_reducible exact ih1 _)
      | (with_reducible exact ih2 _ _)
      | (with_reducible exact dwarf_zzReplaceAll.mono _ _ _ _)
      | (with_reducible exact LeO.refl _)
      | (with_reducible exact LeO.none _)
      | (with_reducible refine LeO.ite ?_ ?_)
      | (with_reducible refine LeO.bind ?_ (fun _ => ?_))
      | exact ih0 _ _
      | exact ih1 _
      | exact ih2 _ _
      | exact dwarf_zzReplaceAll.mono _ _ _ _
      | exact LeO.none _
      | refine LeO.ite ?_ ?_
      | refine LeO.bind ?_ (fun _ => ?_)
set_option maxHeartbeats 8000000 in
set_option maxRecDepth 100000 in
theorem dwarf_splitDrive.calls (k : Nat) (a0 : ByteArray) (r1 : ByteArray) (r2 : ByteArray) (w : World) (h : dwarf_splitDrive.f k a0 = some (r1, r2)) :
    Calls Tryd.prog 8 #[.string a0] w fun e w' => e = .returned (.tuple #[.string r1, .string r2]) ∧ Below w.heap.size w w' := by
  have HB := Aside0.mk (Below.refl w.heap.size w)
  have H : (if (a0.size : Int) ≥ 2 then (if 1 < (a0.size : Int) then (dwarf_splitDrive.j0 k a0 ((bt a0 1) == 58)) else (none)) else (dwarf_splitDrive.j0 k a0 false)) = some (r1, r2) := h
  clear h
  have HC2 := Aside0.mk H
  clear H
  go_enter Tryd.func8, Tryd.ntmps8
  go_upto_region 1 with (fail)
  repeat (go_quiet (fail); go_upto_region 1 with (fail))
  go_cut [15] (fun v15 wc => ∃ (kq : Nat) (x15_1 : Bool), v15 = .bool x15_1 ∧ Aside0 (dwarf_splitDrive.j0 kq a0 x15_1 = some (r1, r2)) ∧ Aside0 (kq ≤ k) ∧ Aside0 (Below w.heap.size w wc))
  case first =>
    have H := HC2.out
    clear HC2
    by_cases c3 : (a0.size : Int) ≥ 2
    · rw [if_pos c3] at H
      have c3b0 : decide (2 ≤ (a0.size : Int)) = true := decide_eq_true c3
      have c3b1 : decide (2 ≤ a0.size) = true := decide_eq_true (by omega)
      clear c3
      (first | rw [c3b0] | (simp only [i64_w, i32_w]; rw [c3b0]) | skip)
      by_cases c4 : 1 < (a0.size : Int)
      · rw [if_pos c4] at H
        have c4b0 : decide (1 < (a0.size : Int)) = true := decide_eq_true c4
        have c4b1 : decide (1 < a0.size) = true := decide_eq_true (by omega)
        clear c4
        have H' := Aside0.mk H
        clear H
        have p5 : 0 ≤ (1 : Int) := (by omega)
        have q5 : 1 < a0.size := (by have : (1 : Int) < (a0.size : Int) := of_decide_eq_true (by first | (with_reducible assumption) | assumption); omega)
        have hx5 : ∀ h : 1 < a0.size, ((a0[1]'h).toNat : Int) = bt a0 1 := bt_at a0 1
        clear p5
        have qi5 : (1 < (a0.size : Int)) = True := eq_true (of_decide_eq_true (by first | (with_reducible assumption) | assumption))
        replace q5 := eq_true q5
        go_wp2
        repeat (go_quiet (fail); try go_wp2)
        go_meet
        case rel => exact ⟨_, (((bt a0 1) == 58)), (by first | rfl | (simp; done) | (simp [*]; done)), H', ⟨by first | omega | exact Nat.le_refl _⟩, ⟨by repeat (first | (with_reducible first | exact HB.out | apply below_alloc | apply pw_below_drewN | apply below_drew1) | exact HB.out)⟩⟩
      · rw [if_neg c4] at H
        exact absurd H (by simp)
    · rw [if_neg c3] at H
      have c3b0 : decide (2 ≤ (a0.size : Int)) = false := decide_eq_false c3
      have c3b1 : decide (2 ≤ a0.size) = false := decide_eq_false (by omega)
      clear c3
      (first | rw [c3b0] | (simp only [i64_w, i32_w]; rw [c3b0]) | skip)
      have H' := Aside0.mk H
      clear H
      go_wp2
      repeat (go_quiet (fail); try go_wp2)
      go_meet
      case rel => exact ⟨_, (false), (by first | rfl | (simp; done) | (simp [*]; done)), H', ⟨by first | omega | exact Nat.le_refl _⟩, ⟨by repeat (first | (with_reducible first | exact HB.out | apply below_alloc | apply pw_below_drewN | apply below_drew1) | exact HB.out)⟩⟩
  case rest =>
    clear HC2
    try clear p2
    try clear c3
    try clear c3b0
    try clear c3b1
    try clear c4
    try clear c4b0
    try clear c4b1
    try clear p5
    try clear q5
    try clear hx5
    try clear qi5
    try clear p5
    try clear q5
    obtain ⟨kq, x15_1, rfl, HA, HJ1, HB⟩ := hcut
    cases kq with
    | zero => exact absurd HA.out (by simp [dwarf_splitDrive.j0])
    | succ kj1 =>
      have H := HA.out
      clear HA
      simp only [dwarf_splitDrive.j0] at H
      have HC6 := Aside0.mk H
      clear H
      go_upto_if 15 with (fail)
      repeat (go_quiet (fail); go_upto_if 15 with (fail))
      go_cut [] (fun wc => ∃ (kq : Nat), Aside0 (dwarf_splitDrive.j1 kq a0 = some (r1, r2)) ∧ Aside0 (kq ≤ kj1) ∧ Aside0 (Below w.heap.size w wc))
      case first =>
        have H := HC6.out
        clear HC6
        by_cases c7 : x15_1 = true
        · subst c7
          have H1 : (if 0 < (a0.size : Int) then (if 97 ≤ (bt a0 0) then (if (bt a0 0) ≤ 122 then (if 0 ≤ 2 then (if 2 ≤ (a0.size : Int) then (some (a0.extract 0 2, a0.extract 2 a0.size)) else (none)) else (none)) else (if 65 ≤ (bt a0 0) then (if (bt a0 0) ≤ 90 then (if 0 ≤ 2 then (if 2 ≤ (a0.size : Int) then (some (a0.extract 0 2, a0.extract 2 a0.size)) else (none)) else (none)) else (dwarf_splitDrive.j1 kj1 a0)) else (dwarf_splitDrive.j1 kj1 a0))) else (if 65 ≤ (bt a0 0) then (if (bt a0 0) ≤ 90 then (if 0 ≤ 2 then (if 2 ≤ (a0.size : Int) then (some (a0.extract 0 2, a0.extract 2 a0.size)) else (none)) else (none)) else (dwarf_splitDrive.j1 kj1 a0)) else (dwarf_splitDrive.j1 kj1 a0))) else (none)) = some (r1, r2) := by rw [if_pos rfl] at H; exact H
          clear H
          have H := H1
          clear H1
          by_cases c8 : 0 < (a0.size : Int)
          · rw [if_pos c8] at H
            have c8b0 : decide (0 < (a0.size : Int)) = true := decide_eq_true c8
            have c8b1 : decide (0 < a0.size) = true := decide_eq_true (by omega)
            clear c8
            (first | rw [c8b0] | (simp only [i64_w, i32_w]; rw [c8b0]) | skip)
            by_cases c10 : 97 ≤ (bt a0 0)
            · rw [if_pos c10] at H
              have c10b0 : decide (97 ≤ (bt a0 0)) = true := decide_eq_true c10
              clear c10
              by_cases c11 : (bt a0 0) ≤ 122
              · rw [if_pos c11] at H
                have c11b0 : decide ((bt a0 0) ≤ 122) = true := decide_eq_true c11
                clear c11
                by_cases c12 : 0 ≤ 2
                · rw [if_pos c12] at H
                  have c12b0 := eq_true c12
                  have c12b1 : decide (0 ≤ 2) = true := decide_eq_true c12
                  clear c12
                  by_cases c13 : 2 ≤ (a0.size : Int)
                  · rw [if_pos c13] at H
                    have c13b0 := eq_true c13
                    have c13b1 : decide (2 ≤ (a0.size : Int)) = true := decide_eq_true c13
                    clear c13
                    have c14b0 := eq_true (of_decide_eq_true (by first | (with_reducible assumption) | assumption) : 2 ≤ (a0.size : Int))
                    simp only [Option.some.injEq, Prod.mk.injEq] at H
                    obtain ⟨rfl, rfl⟩ := H
                    have p9 : 0 ≤ (0 : Int) := (by omega)
                    have q9 : 0 < a0.size := (by have : (0 : Int) < (a0.size : Int) := of_decide_eq_true (by first | (with_reducible assumption) | assumption); omega)
                    have hx9 : ∀ h : 0 < a0.size, ((a0[0]'h).toNat : Int) = bt a0 0 := bt_at a0 0
                    clear p9
                    have qi9 : (0 < (a0.size : Int)) = True := eq_true (of_decide_eq_true (by first | (with_reducible assumption) | assumption))
                    replace q9 := eq_true q9
                    go_wp2
                    repeat (go_quiet (fail); try go_wp2)
                    go_ret2
                    exact ⟨by first | rfl | (simp [errW_none, errW_some] <;> rfl) | (simp [*, errW_none, errW_some] <;> rfl), by repeat (first | (with_reducible first | exact HB.out | apply below_alloc | apply pw_below_drewN | apply below_drew1) | exact HB.out)⟩
                  · rw [if_neg c13] at H
                    exact absurd H (by simp)
                · rw [if_neg c12] at H
                  exact absurd H (by simp)
              · rw [if_neg c11] at H
                have c11b0 : decide ((bt a0 0) ≤ 122) = false := decide_eq_false c11
                clear c11
                by_cases c15 : 65 ≤ (bt a0 0)
                · rw [if_pos c15] at H
                  have c15b0 : decide (65 ≤ (bt a0 0)) = true := decide_eq_true c15
                  clear c15
                  by_cases c16 : (bt a0 0) ≤ 90
                  · rw [if_pos c16] at H
                    have c16b0 : decide ((bt a0 0) ≤ 90) = true := decide_eq_true c16
                    clear c16
                    by_cases c17 : 0 ≤ 2
                    · rw [if_pos c17] at H
                      have c17b0 := eq_true c17
                      have c17b1 : decide (0 ≤ 2) = true := decide_eq_true c17
                      clear c17
                      by_cases c18 : 2 ≤ (a0.size : Int)
                      · rw [if_pos c18] at H
                        have c18b0 := eq_true c18
                        have c18b1 : decide (2 ≤ (a0.size : Int)) = true := decide_eq_true c18
                        clear c18
                        have c19b0 := eq_true (of_decide_eq_true (by first | (with_reducible assumption) | assumption) : 2 ≤ (a0.size : Int))
                        simp only [Option.some.injEq, Prod.mk.injEq] at H
                        obtain ⟨rfl, rfl⟩ := H
                        have p9 : 0 ≤ (0 : Int) := (by omega)
                        have q9 : 0 < a0.size := (by have : (0 : Int) < (a0.size : Int) := of_decide_eq_true (by first | (with_reducible assumption) | assumption); omega)
                        have hx9 : ∀ h : 0 < a0.size, ((a0[0]'h).toNat : Int) = bt a0 0 := bt_at a0 0
                        clear p9
                        have qi9 : (0 < (a0.size : Int)) = True := eq_true (of_decide_eq_true (by first | (with_reducible assumption) | assumption))
                        replace q9 := eq_true q9
                        go_wp2
                        repeat (go_quiet (fail); try go_wp2)
                        go_ret2
                        exact ⟨by first | rfl | (simp [errW_none, errW_some] <;> rfl) | (simp [*, errW_none, errW_some] <;> rfl), by repeat (first | (with_reducible first | exact HB.out | apply below_alloc | apply pw_below_drewN | apply below_drew1) | exact HB.out)⟩
                      · rw [if_neg c18] at H
                        exact absurd H (by simp)
                    · rw [if_neg c17] at H
                      exact absurd H (by simp)
                  · rw [if_neg c16] at H
                    have c16b0 : decide ((bt a0 0) ≤ 90) = false := decide_eq_false c16
                    clear c16
                    have H' := Aside0.mk H
                    clear H
                    have p9 : 0 ≤ (0 : Int) := (by omega)
                    have q9 : 0 < a0.size := (by have : (0 : Int) < (a0.size : Int) := of_decide_eq_true (by first | (with_reducible assumption) | assumption); omega)
                    have hx9 : ∀ h : 0 < a0.size, ((a0[0]'h).toNat : Int) = bt a0 0 := bt_at a0 0
                    clear p9
                    have qi9 : (0 < (a0.size : Int)) = True := eq_true (of_decide_eq_true (by first | (with_reducible assumption) | assumption))
                    replace q9 := eq_true q9
                    go_wp2
                    repeat (go_quiet (fail); try go_wp2)
                    go_meet
                    case rel => exact ⟨_, H', ⟨by have := HJ1.out; first | omega | exact Nat.le_refl _⟩, ⟨by repeat (first | (with_reducible first | exact HB.out | apply below_alloc | apply pw_below_drewN | apply below_drew1) | exact HB.out)⟩⟩
                · rw [if_neg c15] at H
                  have c15b0 : decide (65 ≤ (bt a0 0)) = false := decide_eq_false c15
                  clear c15
                  have H' := Aside0.mk H
                  clear H
                  have p9 : 0 ≤ (0 : Int) := (by omega)
                  have q9 : 0 < a0.size := (by have : (0 : Int) < (a0.size : Int) := of_decide_eq_true (by first | (with_reducible assumption) | assumption); omega)
                  have hx9 : ∀ h : 0 < a0.size, ((a0[0]'h).toNat : Int) = bt a0 0 := bt_at a0 0
                  clear p9
                  have qi9 : (0 < (a0.size : Int)) = True := eq_true (of_decide_eq_true (by first | (with_reducible assumption) | assumption))
                  replace q9 := eq_true q9
                  go_wp2
                  repeat (go_quiet (fail); try go_wp2)
                  go_meet
                  case rel => exact ⟨_, H', ⟨by have := HJ1.out; first | omega | exact Nat.le_refl _⟩, ⟨by repeat (first | (with_reducible first | exact HB.out | apply below_alloc | apply pw_below_drewN | apply below_drew1) | exact HB.out)⟩⟩
            · rw [if_neg c10] at H
              have c10b0 : decide (97 ≤ (bt a0 0)) = false := decide_eq_false c10
              clear c10
              by_cases c20 : 65 ≤ (bt a0 0)
              · rw [if_pos c20] at H
                have c20b0 : decide (65 ≤ (bt a0 0)) = true := decide_eq_true c20
                clear c20
                by_cases c21 : (bt a0 0) ≤ 90
                · rw [if_pos c21] at H
                  have c21b0 : decide ((bt a0 0) ≤ 90) = true := decide_eq_true c21
                  clear c21
                  by_cases c22 : 0 ≤ 2
                  · rw [if_pos c22] at H
                    have c22b0 := eq_true c22
                    have c22b1 : decide (0 ≤ 2) = true := decide_eq_true c22
                    clear c22
                    by_cases c23 : 2 ≤ (a0.size : Int)
                    · rw [if_pos c23] at H
                      have c23b0 := eq_true c23
                      have c23b1 : decide (2 ≤ (a0.size : Int)) = true := decide_eq_true c23
                      clear c23
                      have c24b0 := eq_true (of_decide_eq_true (by first | (with_reducible assumption) | assumption) : 2 ≤ (a0.size : Int))
                      simp only [Option.some.injEq, Prod.mk.injEq] at H
                      obtain ⟨rfl, rfl⟩ := H
                      have p9 : 0 ≤ (0 : Int) := (by omega)
                      have q9 : 0 < a0.size := (by have : (0 : Int) < (a0.size : Int) := of_decide_eq_true (by first | (with_reducible assumption) | assumption); omega)
                      have hx9 : ∀ h : 0 < a0.size, ((a0[0]'h).toNat : Int) = bt a0 0 := bt_at a0 0
                      clear p9
                      have qi9 : (0 < (a0.size : Int)) = True := eq_true (of_decide_eq_true (by first | (with_reducible assumption) | assumption))
                      replace q9 := eq_true q9
                      go_wp2
                      repeat (go_quiet (fail); try go_wp2)
                      go_ret2
                      exact ⟨by first | rfl | (simp [errW_none, errW_some] <;> rfl) | (simp [*, errW_none, errW_some] <;> rfl), by repeat (first | (with_reducible first | exact HB.out | apply below_alloc | apply pw_below_drewN | apply below_drew1) | exact HB.out)⟩
                    · rw [if_neg c23] at H
                      exact absurd H (by simp)
                  · rw [if_neg c22] at H
                    exact absurd H (by simp)
                · rw [if_neg c21] at H
                  have c21b0 : decide ((bt a0 0) ≤ 90) = false := decide_eq_false c21
                  clear c21
                  have H' := Aside0.mk H
                  clear H
                  have p9 : 0 ≤ (0 : Int) := (by omega)
                  have q9 : 0 < a0.size := (by have : (0 : Int) < (a0.size : Int) := of_decide_eq_true (by first | (with_reducible assumption) | assumption); omega)
                  have hx9 : ∀ h : 0 < a0.size, ((a0[0]'h).toNat : Int) = bt a0 0 := bt_at a0 0
                  clear p9
                  have qi9 : (0 < (a0.size : Int)) = True := eq_true (of_decide_eq_true (by first | (with_reducible assumption) | assumption))
                  replace q9 := eq_true q9
                  go_wp2
                  repeat (go_quiet (fail); try go_wp2)
                  go_meet
                  case rel => exact ⟨_, H', ⟨by have := HJ1.out; first | omega | exact Nat.le_refl _⟩, ⟨by repeat (first | (with_reducible first | exact HB.out | apply below_alloc | apply pw_below_drewN | apply below_drew1) | exact HB.out)⟩⟩
              · rw [if_neg c20] at H
                have c20b0 : decide (65 ≤ (bt a0 0)) = false := decide_eq_false c20
                clear c20
                have H' := Aside0.mk H
                clear H
                have p9 : 0 ≤ (0 : Int) := (by omega)
                have q9 : 0 < a0.size := (by have : (0 : Int) < (a0.size : Int) := of_decide_eq_true (by first | (with_reducible assumption) | assumption); omega)
                have hx9 : ∀ h : 0 < a0.size, ((a0[0]'h).toNat : Int) = bt a0 0 := bt_at a0 0
                clear p9
                have qi9 : (0 < (a0.size : Int)) = True := eq_true (of_decide_eq_true (by first | (with_reducible assumption) | assumption))
                replace q9 := eq_true q9
                go_wp2
                repeat (go_quiet (fail); try go_wp2)
                go_meet
                case rel => exact ⟨_, H', ⟨by have := HJ1.out; first | omega | exact Nat.le_refl _⟩, ⟨by repeat (first | (with_reducible first | exact HB.out | apply below_alloc | apply pw_below_drewN | apply below_drew1) | exact HB.out)⟩⟩
          · rw [if_neg c8] at H
            exact absurd H (by simp)
        · replace c7 := Bool.eq_false_iff.mpr c7
          subst c7
          have H1 : (dwarf_splitDrive.j1 kj1 a0) = some (r1, r2) := by rw [if_neg (show ¬ (false = true) by decide)] at H; exact H
          clear H
          have H := H1
          clear H1
          have H' := Aside0.mk H
          clear H
          go_wp2
          repeat (go_quiet (fail); try go_wp2)
          go_meet
          case rel => exact ⟨_, H', ⟨by have := HJ1.out; first | omega | exact Nat.le_refl _⟩, ⟨by repeat (first | (with_reducible first | exact HB.out | apply below_alloc | apply pw_below_drewN | apply below_drew1) | exact HB.out)⟩⟩
      case rest =>
        clear HC6
        try clear c1
        try clear c2
        try clear p2
        try clear c3
        try clear c3b0
        try clear c3b1
        try clear c4
        try clear c4b0
        try clear c4b1
        try clear p5
        try clear q5
        try clear hx5
        try clear qi5
        try clear c7
        try clear c8
        try clear c8b0
        try clear c8b1
        try clear p9
        try clear q9
        try clear hx9
        try clear qi9
        try clear c10
        try clear c10b0
        try clear c11
        try clear c11b0
        try clear c12
        try clear c12b0
        try clear c12b1
        try clear c13
        try clear c13b0
        try clear c13b1
        try clear c14
        try clear c14b0
        try clear c15
        try clear c15b0
        try clear c16
        try clear c16b0
        try clear c17
        try clear c17b0
        try clear c17b1
        try clear c18
        try clear c18b0
        try clear c18b1
        try clear c19
        try clear c19b0
        try clear c20
        try clear c20b0
        try clear c21
        try clear c21b0
        try clear c22
        try clear c22b0
        try clear c22b1
        try clear c23
        try clear c23b0
        try clear c23b1
        try clear c24
        try clear c24b0
        try clear p2
        try clear p5
        try clear p9
        try clear q5
        try clear q9
        obtain ⟨kq, HA, HJ5, HB⟩ := hcut
        cases kq with
        | zero => exact absurd HA.out (by simp [dwarf_splitDrive.j1])
        | succ kj5 =>
          have H := HA.out
          clear HA
          simp only [dwarf_splitDrive.j1] at H
          have HC25 := Aside0.mk H
          clear H
          go_upto_region 5 with (fail)
          repeat (go_quiet (fail); go_upto_region 5 with (fail))
          go_cut [58] (fun v58 wc => ∃ (kq : Nat) (x58_24 : Bool), v58 = .bool x58_24 ∧ Aside0 (dwarf_splitDrive.j2 kq a0 x58_24 = some (r1, r2)) ∧ Aside0 (kq ≤ kj5) ∧ Aside0 (Below w.heap.size w wc))
          case first =>
            have H := HC25.out
            clear HC25
            by_cases c26 : (a0.size : Int) > 3
            · rw [if_pos c26] at H
              have c26b0 : decide (3 < (a0.size : Int)) = true := decide_eq_true c26
              have c26b1 : decide (3 < a0.size) = true := decide_eq_true (by omega)
              clear c26
              (first | rw [c26b0] | (simp only [i64_w, i32_w]; rw [c26b0]) | skip)
              by_cases c27 : 0 < (a0.size : Int)
              · rw [if_pos c27] at H
                have c27b0 : decide (0 < (a0.size : Int)) = true := decide_eq_true c27
                have c27b1 : decide (0 < a0.size) = true := decide_eq_true (by omega)
                clear c27
                by_cases c29 : (bt a0 0) = 92
                · rw [if_pos c29] at H
                  have c29b0 : ((bt a0 0) == 92) = true := beq_iff_eq.mpr c29
                  have c29b1 : ((bt a0 0) != 92) = false := bne_eq_false_iff_eq.mpr c29
                  clear c29
                  by_cases c30 : 1 < (a0.size : Int)
                  · rw [if_pos c30] at H
                    have c30b0 : decide (1 < (a0.size : Int)) = true := decide_eq_true c30
                    have c30b1 : decide (1 < a0.size) = true := decide_eq_true (by omega)
                    clear c30
                    by_cases c32 : (bt a0 1) = 92
                    · rw [if_pos c32] at H
                      have c32b0 : ((bt a0 1) == 92) = true := beq_iff_eq.mpr c32
                      have c32b1 : ((bt a0 1) != 92) = false := bne_eq_false_iff_eq.mpr c32
                      clear c32
                      have H' := Aside0.mk H
                      clear H
                      have p28 : 0 ≤ (0 : Int) := (by omega)
                      have q28 : 0 < a0.size := (by have : (0 : Int) < (a0.size : Int) := of_decide_eq_true (by first | (with_reducible assumption) | assumption); omega)
                      have hx28 : ∀ h : 0 < a0.size, ((a0[0]'h).toNat : Int) = bt a0 0 := bt_at a0 0
                      clear p28
                      have qi28 : (0 < (a0.size : Int)) = True := eq_true (of_decide_eq_true (by first | (with_reducible assumption) | assumption))
                      replace q28 := eq_true q28
                      have p31 : 0 ≤ (1 : Int) := (by omega)
                      have q31 : 1 < a0.size := (by have : (1 : Int) < (a0.size : Int) := of_decide_eq_true (by first | (with_reducible assumption) | assumption); omega)
                      have hx31 : ∀ h : 1 < a0.size, ((a0[1]'h).toNat : Int) = bt a0 1 := bt_at a0 1
                      clear p31
                      have qi31 : (1 < (a0.size : Int)) = True := eq_true (of_decide_eq_true (by first | (with_reducible assumption) | assumption))
                      replace q31 := eq_true q31
                      go_wp2
                      repeat (go_quiet (fail); try go_wp2)
                      go_meet
                      case rel => exact ⟨_, (true), (by first | rfl | (simp; done) | (simp [*]; done)), H', ⟨by have := HJ1.out; have := HJ5.out; first | omega | exact Nat.le_refl _⟩, ⟨by repeat (first | (with_reducible first | exact HB.out | apply below_alloc | apply pw_below_drewN | apply below_drew1) | exact HB.out)⟩⟩
                    · rw [if_neg c32] at H
                      have c32b0 : ((bt a0 1) == 92) = false := beq_eq_false_iff_ne.mpr c32
                      have c32b1 : ((bt a0 1) != 92) = true := bne_iff_ne.mpr c32
                      have H' := Aside0.mk H
                      clear H
                      have p28 : 0 ≤ (0 : Int) := (by omega)
                      have q28 : 0 < a0.size := (by have : (0 : Int) < (a0.size : Int) := of_decide_eq_true (by first | (with_reducible assumption) | assumption); omega)
                      have hx28 : ∀ h : 0 < a0.size, ((a0[0]'h).toNat : Int) = bt a0 0 := bt_at a0 0
                      clear p28
                      have qi28 : (0 < (a0.size : Int)) = True := eq_true (of_decide_eq_true (by first | (with_reducible assumption) | assumption))
                      replace q28 := eq_true q28
                      have p31 : 0 ≤ (1 : Int) := (by omega)
                      have q31 : 1 < a0.size := (by have : (1 : Int) < (a0.size : Int) := of_decide_eq_true (by first | (with_reducible assumption) | assumption); omega)
                      have hx31 : ∀ h : 1 < a0.size, ((a0[1]'h).toNat : Int) = bt a0 1 := bt_at a0 1
                      clear p31
                      have qi31 : (1 < (a0.size : Int)) = True := eq_true (of_decide_eq_true (by first | (with_reducible assumption) | assumption))
                      replace q31 := eq_true q31
                      have p33 : 0 ≤ (1 : Int) := (by omega)
                      have q33 : 1 < a0.size := (by have : (1 : Int) < (a0.size : Int) := of_decide_eq_true (by first | (with_reducible assumption) | assumption); omega)
                      have hx33 : ∀ h : 1 < a0.size, ((a0[1]'h).toNat : Int) = bt a0 1 := bt_at a0 1
                      clear p33
                      have qi33 : (1 < (a0.size : Int)) = True := eq_true (of_decide_eq_true (by first | (with_reducible assumption) | assumption))
                      replace q33 := eq_true q33
                      go_wp2
                      repeat (go_quiet (fail); try go_wp2)
                      go_meet
                      case rel => exact ⟨_, (((bt a0 1) == 47)), (by first | rfl | (simp; done) | (simp [*]; done)), H', ⟨by have := HJ1.out; have := HJ5.out; first | omega | exact Nat.le_refl _⟩, ⟨by repeat (first | (with_reducible first | exact HB.out | apply below_alloc | apply pw_below_drewN | apply below_drew1) | exact HB.out)⟩⟩
                  · rw [if_neg c30] at H
                    exact absurd H (by simp)
                · rw [if_neg c29] at H
                  have c29b0 : ((bt a0 0) == 92) = false := beq_eq_false_iff_ne.mpr c29
                  have c29b1 : ((bt a0 0) != 92) = true := bne_iff_ne.mpr c29
                  by_cases c35 : (bt a0 0) = 47
                  · rw [if_pos c35] at H
                    have c35b0 : ((bt a0 0) == 47) = true := beq_iff_eq.mpr c35
                    have c35b1 : ((bt a0 0) != 47) = false := bne_eq_false_iff_eq.mpr c35
                    clear c35
                    by_cases c36 : 1 < (a0.size : Int)
                    · rw [if_pos c36] at H
                      have c36b0 : decide (1 < (a0.size : Int)) = true := decide_eq_true c36
                      have c36b1 : decide (1 < a0.size) = true := decide_eq_true (by omega)
                      clear c36
                      by_cases c38 : (bt a0 1) = 92
                      · rw [if_pos c38] at H
                        have c38b0 : ((bt a0 1) == 92) = true := beq_iff_eq.mpr c38
                        have c38b1 : ((bt a0 1) != 92) = false := bne_eq_false_iff_eq.mpr c38
                        clear c38
                        have H' := Aside0.mk H
                        clear H
                        have p28 : 0 ≤ (0 : Int) := (by omega)
                        have q28 : 0 < a0.size := (by have : (0 : Int) < (a0.size : Int) := of_decide_eq_true (by first | (with_reducible assumption) | assumption); omega)
                        have hx28 : ∀ h : 0 < a0.size, ((a0[0]'h).toNat : Int) = bt a0 0 := bt_at a0 0
                        clear p28
                        have qi28 : (0 < (a0.size : Int)) = True := eq_true (of_decide_eq_true (by first | (with_reducible assumption) | assumption))
                        replace q28 := eq_true q28
                        have p34 : 0 ≤ (0 : Int) := (by omega)
                        have q34 : 0 < a0.size := (by have : (0 : Int) < (a0.size : Int) := of_decide_eq_true (by first | (with_reducible assumption) | assumption); omega)
                        have hx34 : ∀ h : 0 < a0.size, ((a0[0]'h).toNat : Int) = bt a0 0 := bt_at a0 0
                        clear p34
                        have qi34 : (0 < (a0.size : Int)) = True := eq_true (of_decide_eq_true (by first | (with_reducible assumption) | assumption))
                        replace q34 := eq_true q34
                        have p37 : 0 ≤ (1 : Int) := (by omega)
                        have q37 : 1 < a0.size := (by have : (1 : Int) < (a0.size : Int) := of_decide_eq_true (by first | (with_reducible assumption) | assumption); omega)
                        have hx37 : ∀ h : 1 < a0.size, ((a0[1]'h).toNat : Int) = bt a0 1 := bt_at a0 1
                        clear p37
                        have qi37 : (1 < (a0.size : Int)) = True := eq_true (of_decide_eq_true (by first | (with_reducible assumption) | assumption))
                        replace q37 := eq_true q37
                        go_wp2
                        repeat (go_quiet (fail); try go_wp2)
                        go_meet
                        case rel => exact ⟨_, (true), (by first | rfl | (simp; done) | (simp [*]; done)), H', ⟨by have := HJ1.out; have := HJ5.out; first | omega | exact Nat.le_refl _⟩, ⟨by repeat (first | (with_reducible first | exact HB.out | apply below_alloc | apply pw_below_drewN | apply below_drew1) | exact HB.out)⟩⟩
                      · rw [if_neg c38] at H
                        have c38b0 : ((bt a0 1) == 92) = false := beq_eq_false_iff_ne.mpr c38
                        have c38b1 : ((bt a0 1) != 92) = true := bne_iff_ne.mpr c38
                        have H' := Aside0.mk H
                        clear H
                        have p28 : 0 ≤ (0 : Int) := (by omega)
                        have q28 : 0 < a0.size := (by have : (0 : Int) < (a0.size : Int) := of_decide_eq_true (by first | (with_reducible assumption) | assumption); omega)
                        have hx28 : ∀ h : 0 < a0.size, ((a0[0]'h).toNat : Int) = bt a0 0 := bt_at a0 0
                        clear p28
                        have qi28 : (0 < (a0.size : Int)) = True := eq_true (of_decide_eq_true (by first | (with_reducible assumption) | assumption))
                        replace q28 := eq_true q28
                        have p34 : 0 ≤ (0 : Int) := (by omega)
                        have q34 : 0 < a0.size := (by have : (0 : Int) < (a0.size : Int) := of_decide_eq_true (by first | (with_reducible assumption) | assumption); omega)
                        have hx34 : ∀ h : 0 < a0.size, ((a0[0]'h).toNat : Int) = bt a0 0 := bt_at a0 0
                        clear p34
                        have qi34 : (0 < (a0.size : Int)) = True := eq_true (of_decide_eq_true (by first | (with_reducible assumption) | assumption))
                        replace q34 := eq_true q34
                        have p37 : 0 ≤ (1 : Int) := (by omega)
                        have q37 : 1 < a0.size := (by have : (1 : Int) < (a0.size : Int) := of_decide_eq_true (by first | (with_reducible assumption) | assumption); omega)
                        have hx37 : ∀ h : 1 < a0.size, ((a0[1]'h).toNat : Int) = bt a0 1 := bt_at a0 1
                        clear p37
                        have qi37 : (1 < (a0.size : Int)) = True := eq_true (of_decide_eq_true (by first | (with_reducible assumption) | assumption))
                        replace q37 := eq_true q37
                        have p39 : 0 ≤ (1 : Int) := (by omega)
                        have q39 : 1 < a0.size := (by have : (1 : Int) < (a0.size : Int) := of_decide_eq_true (by first | (with_reducible assumption) | assumption); omega)
                        have hx39 : ∀ h : 1 < a0.size, ((a0[1]'h).toNat : Int) = bt a0 1 := bt_at a0 1
                        clear p39
                        have qi39 : (1 < (a0.size : Int)) = True := eq_true (of_decide_eq_true (by first | (with_reducible assumption) | assumption))
                        replace q39 := eq_true q39
                        go_wp2
                        repeat (go_quiet (fail); try go_wp2)
                        go_meet
                        case rel => exact ⟨_, (((bt a0 1) == 47)), (by first | rfl | (simp; done) | (simp [*]; done)), H', ⟨by have := HJ1.out; have := HJ5.out; first | omega | exact Nat.le_refl _⟩, ⟨by repeat (first | (with_reducible first | exact HB.out | apply below_alloc | apply pw_below_drewN | apply below_drew1) | exact HB.out)⟩⟩
                    · rw [if_neg c36] at H
                      exact absurd H (by simp)
                  · rw [if_neg c35] at H
                    have c35b0 : ((bt a0 0) == 47) = false := beq_eq_false_iff_ne.mpr c35
                    have c35b1 : ((bt a0 0) != 47) = true := bne_iff_ne.mpr c35
                    have H' := Aside0.mk H
                    clear H
                    have p28 : 0 ≤ (0 : Int) := (by omega)
                    have q28 : 0 < a0.size := (by have : (0 : Int) < (a0.size : Int) := of_decide_eq_true (by first | (with_reducible assumption) | assumption); omega)
                    have hx28 : ∀ h : 0 < a0.size, ((a0[0]'h).toNat : Int) = bt a0 0 := bt_at a0 0
                    clear p28
                    have qi28 : (0 < (a0.size : Int)) = True := eq_true (of_decide_eq_true (by first | (with_reducible assumption) | assumption))
                    replace q28 := eq_true q28
                    have p34 : 0 ≤ (0 : Int) := (by omega)
                    have q34 : 0 < a0.size := (by have : (0 : Int) < (a0.size : Int) := of_decide_eq_true (by first | (with_reducible assumption) | assumption); omega)
                    have hx34 : ∀ h : 0 < a0.size, ((a0[0]'h).toNat : Int) = bt a0 0 := bt_at a0 0
                    clear p34
                    have qi34 : (0 < (a0.size : Int)) = True := eq_true (of_decide_eq_true (by first | (with_reducible assumption) | assumption))
                    replace q34 := eq_true q34
                    go_wp2
                    repeat (go_quiet (fail); try go_wp2)
                    go_meet
                    case rel => exact ⟨_, (false), (by first | rfl | (simp; done) | (simp [*]; done)), H', ⟨by have := HJ1.out; have := HJ5.out; first | omega | exact Nat.le_refl _⟩, ⟨by repeat (first | (with_reducible first | exact HB.out | apply below_alloc | apply pw_below_drewN | apply below_drew1) | exact HB.out)⟩⟩
              · rw [if_neg c27] at H
                exact absurd H (by simp)
            · rw [if_neg c26] at H
              have c26b0 : decide (3 < (a0.size : Int)) = false := decide_eq_false c26
              have c26b1 : decide (3 < a0.size) = false := decide_eq_false (by omega)
              clear c26
              (first | rw [c26b0] | (simp only [i64_w, i32_w]; rw [c26b0]) | skip)
              have H' := Aside0.mk H
              clear H
              go_wp2
              repeat (go_quiet (fail); try go_wp2)
              go_meet
              case rel => exact ⟨_, (false), (by first | rfl | (simp; done) | (simp [*]; done)), H', ⟨by have := HJ1.out; have := HJ5.out; first | omega | exact Nat.le_refl _⟩, ⟨by repeat (first | (with_reducible first | exact HB.out | apply below_alloc | apply pw_below_drewN | apply below_drew1) | exact HB.out)⟩⟩
          case rest =>
            clear HC25
            try clear c1
            try clear c2
            try clear p2
            try clear q2
            try clear hx2
            try clear qi2
            try clear c3
            try clear c3b0
            try clear c3b1
            try clear p3
            try clear q3
            try clear hx3
            try clear qi3
            try clear c4
            try clear c4b0
            try clear c4b1
            try clear p5
            try clear q5
            try clear hx5
            try clear qi5
            try clear c7
            try clear c8
            try clear c8b0
            try clear c8b1
            try clear p9
            try clear q9
            try clear hx9
            try clear qi9
            try clear c10
            try clear c10b0
            try clear c11
            try clear c11b0
            try clear c12
            try clear c12b0
            try clear c12b1
            try clear c13
            try clear c13b0
            try clear c13b1
            try clear c14
            try clear c14b0
            try clear c15
            try clear c15b0
            try clear c16
            try clear c16b0
            try clear c17
            try clear c17b0
            try clear c17b1
            try clear c18
            try clear c18b0
            try clear c18b1
            try clear c19
            try clear c19b0
            try clear c20
            try clear c20b0
            try clear c21
            try clear c21b0
            try clear c22
            try clear c22b0
            try clear c22b1
            try clear c23
            try clear c23b0
            try clear c23b1
            try clear c24
            try clear c24b0
            try clear c26
            try clear c26b0
            try clear c26b1
            try clear c27
            try clear c27b0
            try clear c27b1
            try clear p28
            try clear q28
            try clear hx28
            try clear qi28
            try clear c29
            try clear c29b0
            try clear c29b1
            try clear c30
            try clear c30b0
            try clear c30b1
            try clear p31
            try clear q31
            try clear hx31
            try clear qi31
            try clear c32
            try clear c32b0
            try clear c32b1
            try clear p33
            try clear q33
            try clear hx33
            try clear qi33
            try clear p34
            try clear q34
            try clear hx34
            try clear qi34
            try clear c35
            try clear c35b0
            try clear c35b1
            try clear c36
            try clear c36b0
            try clear c36b1
            try clear p37
            try clear q37
            try clear hx37
            try clear qi37
            try clear c38
            try clear c38b0
            try clear c38b1
            try clear p39
            try clear q39
            try clear hx39
            try clear qi39
            try clear p2
            try clear p28
            try clear p31
            try clear p33
            try clear p34
            try clear p37
            try clear p39
            try clear p5
            try clear p9
            try clear q28
            try clear q31
            try clear q33
            try clear q34
            try clear q37
            try clear q39
            try clear q5
            try clear q9
            obtain ⟨kq, x58_24, rfl, HA, HJ24, HB⟩ := hcut
            cases kq with
            | zero => exact absurd HA.out (by simp [dwarf_splitDrive.j2])
            | succ kj24 =>
              have H := HA.out
              clear HA
              simp only [dwarf_splitDrive.j2] at H
              by_cases c40 : x58_24 = true
              · subst c40
                have H1 : ((dwarf_zzReplaceAll.f kj24 a0 (⟨#[47]⟩ : ByteArray) (⟨#[92]⟩ : ByteArray)).bind fun t111 => (if 2 ≤ (t111.size : Int) then ((strings_IndexByte.f (t111.extract 2 t111.size) 92).bind fun t112 => (if (wrap64 (t112 + 2)) > 2 then (if 0 ≤ (wrap64 ((wrap64 (t112 + 2)) + 1)) then (if (wrap64 ((wrap64 (t112 + 2)) + 1)) ≤ (t111.size : Int) then ((strings_IndexByte.f (t111.extract ((wrap64 ((wrap64 (t112 + 2)) + 1)) : Int).toNat t111.size) 92).bind fun t113 => (if (wrap64 ((wrap64 (t113 + (wrap64 (t112 + 2)))) + 1)) > (wrap64 (t112 + 2)) then (if 0 ≤ (wrap64 ((wrap64 (t113 + (wrap64 (t112 + 2)))) + 1)) then (if (wrap64 ((wrap64 (t113 + (wrap64 (t112 + 2)))) + 1)) ≤ (a0.size : Int) then (some (a0.extract 0 ((wrap64 ((wrap64 (t113 + (wrap64 (t112 + 2)))) + 1)) : Int).toNat, a0.extract ((wrap64 ((wrap64 (t113 + (wrap64 (t112 + 2)))) + 1)) : Int).toNat a0.size)) else (none)) else (none)) else (some ((⟨#[]⟩ : ByteArray), a0)))) else (none)) else (none)) else (some ((⟨#[]⟩ : ByteArray), a0)))) else (none))) = some (r1, r2) := by rw [if_pos rfl] at H; exact H
                clear H
                have H := H1
                clear H1
                replace H := Option.bind_eq_some_iff.mp H
                obtain ⟨t111, A410, H⟩ := H
                replace H : (if 2 ≤ (t111.size : Int) then ((strings_IndexByte.f (t111.extract 2 t111.size) 92).bind fun t112 => (if (wrap64 (t112 + 2)) > 2 then (if 0 ≤ (wrap64 ((wrap64 (t112 + 2)) + 1)) then (if (wrap64 ((wrap64 (t112 + 2)) + 1)) ≤ (t111.size : Int) then ((strings_IndexByte.f (t111.extract ((wrap64 ((wrap64 (t112 + 2)) + 1)) : Int).toNat t111.size) 92).bind fun t113 => (if (wrap64 ((wrap64 (t113 + (wrap64 (t112 + 2)))) + 1)) > (wrap64 (t112 + 2)) then (if 0 ≤ (wrap64 ((wrap64 (t113 + (wrap64 (t112 + 2)))) + 1)) then (if (wrap64 ((wrap64 (t113 + (wrap64 (t112 + 2)))) + 1)) ≤ (a0.size : Int) then (some (a0.extract 0 ((wrap64 ((wrap64 (t113 + (wrap64 (t112 + 2)))) + 1)) : Int).toNat, a0.extract ((wrap64 ((wrap64 (t113 + (wrap64 (t112 + 2)))) + 1)) : Int).toNat a0.size)) else (none)) else (none)) else (some ((⟨#[]⟩ : ByteArray), a0)))) else (none)) else (none)) else (some ((⟨#[]⟩ : ByteArray), a0)))) else (none)) = some (r1, r2) := H
                have A41 := Aside0.mk A410
                clear A410
                by_cases c42 : 2 ≤ (t111.size : Int)
                · rw [if_pos c42] at H
                  have c42b0 := eq_true c42
                  have c42b1 : decide (2 ≤ (t111.size : Int)) = true := decide_eq_true c42
                  clear c42
                  replace H := Option.bind_eq_some_iff.mp H
                  obtain ⟨t112, A430, H⟩ := H
                  replace H : (if (wrap64 (t112 + 2)) > 2 then (if 0 ≤ (wrap64 ((wrap64 (t112 + 2)) + 1)) then (if (wrap64 ((wrap64 (t112 + 2)) + 1)) ≤ (t111.size : Int) then ((strings_IndexByte.f (t111.extract ((wrap64 ((wrap64 (t112 + 2)) + 1)) : Int).toNat t111.size) 92).bind fun t113 => (if (wrap64 ((wrap64 (t113 + (wrap64 (t112 + 2)))) + 1)) > (wrap64 (t112 + 2)) then (if 0 ≤ (wrap64 ((wrap64 (t113 + (wrap64 (t112 + 2)))) + 1)) then (if (wrap64 ((wrap64 (t113 + (wrap64 (t112 + 2)))) + 1)) ≤ (a0.size : Int) then (some (a0.extract 0 ((wrap64 ((wrap64 (t113 + (wrap64 (t112 + 2)))) + 1)) : Int).toNat, a0.extract ((wrap64 ((wrap64 (t113 + (wrap64 (t112 + 2)))) + 1)) : Int).toNat a0.size)) else (none)) else (none)) else (some ((⟨#[]⟩ : ByteArray), a0)))) else (none)) else (none)) else (some ((⟨#[]⟩ : ByteArray), a0))) = some (r1, r2) := H
                  have A43 := Aside0.mk A430
                  clear A430
                  by_cases c44 : (wrap64 (t112 + 2)) > 2
                  · rw [if_pos c44] at H
                    have c44b0 : decide (2 < (wrap64 (t112 + 2))) = true := decide_eq_true c44
                    clear c44
                    obtain ⟨ji45, hji45⟩ : ∃ j_ : Int, (wrap64 ((wrap64 (t112 + 2)) + 1)) = j_ := ⟨_, rfl⟩
                    replace H : (if 0 ≤ (ji45) then (if (ji45) ≤ (t111.size : Int) then ((strings_IndexByte.f (t111.extract ((ji45) : Int).toNat t111.size) 92).bind fun t113 => (if (wrap64 ((wrap64 (t113 + (wrap64 (t112 + 2)))) + 1)) > (wrap64 (t112 + 2)) then (if 0 ≤ (wrap64 ((wrap64 (t113 + (wrap64 (t112 + 2)))) + 1)) then (if (wrap64 ((wrap64 (t113 + (wrap64 (t112 + 2)))) + 1)) ≤ (a0.size : Int) then (some (a0.extract 0 ((wrap64 ((wrap64 (t113 + (wrap64 (t112 + 2)))) + 1)) : Int).toNat, a0.extract ((wrap64 ((wrap64 (t113 + (wrap64 (t112 + 2)))) + 1)) : Int).toNat a0.size)) else (none)) else (none)) else (some ((⟨#[]⟩ : ByteArray), a0)))) else (none)) else (none)) = some (r1, r2) := by first | (rw [hji45] at H; exact H) | (simp only [hji45] at H ⊢; exact H)
                    (try rw [hji45] at A41)
                    (try rw [hji45] at A43)
                    have hji45w : (IntKind.i64.wrap ((wrap64 (t112 + 2)) + 1)) = ji45 := (i64_w _).trans hji45
                    by_cases c46 : 0 ≤ (ji45)
                    · rw [if_pos c46] at H
                      have c46b0 := eq_true c46
                      have c46b1 : decide (0 ≤ (ji45)) = true := decide_eq_true c46
                      clear c46
                      by_cases c47 : (ji45) ≤ (t111.size : Int)
                      · rw [if_pos c47] at H
                        have c47b0 := eq_true c47
                        have c47b1 : decide ((ji45) ≤ (t111.size : Int)) = true := decide_eq_true c47
                        clear c47
                        replace H := Option.bind_eq_some_iff.mp H
                        obtain ⟨t113, A480, H⟩ := H
                        replace H : (if (wrap64 ((wrap64 (t113 + (wrap64 (t112 + 2)))) + 1)) > (wrap64 (t112 + 2)) then (if 0 ≤ (wrap64 ((wrap64 (t113 + (wrap64 (t112 + 2)))) + 1)) then (if (wrap64 ((wrap64 (t113 + (wrap64 (t112 + 2)))) + 1)) ≤ (a0.size : Int) then (some (a0.extract 0 ((wrap64 ((wrap64 (t113 + (wrap64 (t112 + 2)))) + 1)) : Int).toNat, a0.extract ((wrap64 ((wrap64 (t113 + (wrap64 (t112 + 2)))) + 1)) : Int).toNat a0.size)) else (none)) else (none)) else (some ((⟨#[]⟩ : ByteArray), a0))) = some (r1, r2) := H
                        have A48 := Aside0.mk A480
                        clear A480
                        by_cases c49 : (wrap64 ((wrap64 (t113 + (wrap64 (t112 + 2)))) + 1)) > (wrap64 (t112 + 2))
                        · rw [if_pos c49] at H
                          have c49b0 : decide ((wrap64 (t112 + 2)) < (wrap64 ((wrap64 (t113 + (wrap64 (t112 + 2)))) + 1))) = true := decide_eq_true c49
                          clear c49
                          obtain ⟨ji50, hji50⟩ : ∃ j_ : Int, (wrap64 ((wrap64 (t113 + (wrap64 (t112 + 2)))) + 1)) = j_ := ⟨_, rfl⟩
                          replace H : (if 0 ≤ (ji50) then (if (ji50) ≤ (a0.size : Int) then (some (a0.extract 0 ((ji50) : Int).toNat, a0.extract ((ji50) : Int).toNat a0.size)) else (none)) else (none)) = some (r1, r2) := by first | (rw [hji50] at H; exact H) | (simp only [hji50] at H ⊢; exact H)
                          (try rw [hji50] at c49b0)
                          (try rw [hji50] at A41)
                          (try rw [hji50] at A43)
                          (try rw [hji50] at A48)
                          have hji50w : (IntKind.i64.wrap ((wrap64 (t113 + (wrap64 (t112 + 2)))) + 1)) = ji50 := (i64_w _).trans hji50
                          by_cases c51 : 0 ≤ (ji50)
                          · rw [if_pos c51] at H
                            have c51b0 := eq_true c51
                            have c51b1 : decide (0 ≤ (ji50)) = true := decide_eq_true c51
                            clear c51
                            by_cases c52 : (ji50) ≤ (a0.size : Int)
                            · rw [if_pos c52] at H
                              have c52b0 := eq_true c52
                              have c52b1 : decide ((ji50) ≤ (a0.size : Int)) = true := decide_eq_true c52
                              clear c52
                              have c53b0 := eq_true (of_decide_eq_true (by first | (with_reducible assumption) | assumption) : 0 ≤ (ji50))
                              have c54b0 := eq_true (of_decide_eq_true (by first | (with_reducible assumption) | assumption) : (ji50) ≤ (a0.size : Int))
                              simp only [Option.some.injEq, Prod.mk.injEq] at H
                              obtain ⟨rfl, rfl⟩ := H
                              go_wp2_with (first | (go_at_call 13; (with_reducible refine (dwarf_zzReplaceAll.calls kj24 a0 (⟨#[47]⟩ : ByteArray) (⟨#[92]⟩ : ByteArray) t111 _ A41.out).mono ?_); rintro e w55 ⟨rfl, hb⟩; have n0_ := Aside0.mk (below_step (by repeat (first | (with_reducible first | exact HB.out | apply below_alloc | apply pw_below_drewN | apply below_drew1) | exact HB.out)) hb); clear HB; have HB := n0_; clear n0_; (try clear hb); (try clear hb2); (try clear hk); (try clear hi)) | (go_at_call 14; (with_reducible refine (strings_IndexByte.calls (t111.extract 2 t111.size) 92 t112 _ A43.out).mono ?_); rintro e w' ⟨rfl, ⟨nd, rfl⟩⟩; (try first | exact ⟨rfl, _, World.drewN_drewN _ _ _⟩ | exact ⟨rfl, _, Eq.trans (World.drewN_drewN _ _ _) (congrArg (World.drewN _) (Nat.add_assoc _ _ _))⟩)) | (go_at_call 14; (with_reducible refine (strings_IndexByte.calls (t111.extract ((ji45) : Int).toNat t111.size) 92 t113 _ A48.out).mono ?_); rintro e w' ⟨rfl, ⟨nd, rfl⟩⟩; (try first | exact ⟨rfl, _, World.drewN_drewN _ _ _⟩ | exact ⟨rfl, _, Eq.trans (World.drewN_drewN _ _ _) (congrArg (World.drewN _) (Nat.add_assoc _ _ _))⟩)))
                              repeat (go_quiet (first | (go_at_call 13; (with_reducible refine (dwarf_zzReplaceAll.calls kj24 a0 (⟨#[47]⟩ : ByteArray) (⟨#[92]⟩ : ByteArray) t111 _ A41.out).mono ?_); rintro e w55 ⟨rfl, hb⟩; have n0_ := Aside0.mk (below_step (by repeat (first | (with_reducible first | exact HB.out | apply below_alloc | apply pw_below_drewN | apply below_drew1) | exact HB.out)) hb); clear HB; have HB := n0_; clear n0_; (try clear hb); (try clear hb2); (try clear hk); (try clear hi)) | (go_at_call 14; (with_reducible refine (strings_IndexByte.calls (t111.extract 2 t111.size) 92 t112 _ A43.out).mono ?_); rintro e w' ⟨rfl, ⟨nd, rfl⟩⟩; (try first | exact ⟨rfl, _, World.drewN_drewN _ _ _⟩ | exact ⟨rfl, _, Eq.trans (World.drewN_drewN _ _ _) (congrArg (World.drewN _) (Nat.add_assoc _ _ _))⟩)) | (go_at_call 14; (with_reducible refine (strings_IndexByte.calls (t111.extract ((ji45) : Int).toNat t111.size) 92 t113 _ A48.out).mono ?_); rintro e w' ⟨rfl, ⟨nd, rfl⟩⟩; (try first | exact ⟨rfl, _, World.drewN_drewN _ _ _⟩ | exact ⟨rfl, _, Eq.trans (World.drewN_drewN _ _ _) (congrArg (World.drewN _) (Nat.add_assoc _ _ _))⟩))); try go_wp2_with (first | (go_at_call 13; (with_reducible refine (dwarf_zzReplaceAll.calls kj24 a0 (⟨#[47]⟩ : ByteArray) (⟨#[92]⟩ : ByteArray) t111 _ A41.out).mono ?_); rintro e w55 ⟨rfl, hb⟩; have n0_ := Aside0.mk (below_step (by repeat (first | (with_reducible first | exact HB.out | apply below_alloc | apply pw_below_drewN | apply below_drew1) | exact HB.out)) hb); clear HB; have HB := n0_; clear n0_; (try clear hb); (try clear hb2); (try clear hk); (try clear hi)) | (go_at_call 14; (with_reducible refine (strings_IndexByte.calls (t111.extract 2 t111.size) 92 t112 _ A43.out).mono ?_); rintro e w' ⟨rfl, ⟨nd, rfl⟩⟩; (try first | exact ⟨rfl, _, World.drewN_drewN _ _ _⟩ | exact ⟨rfl, _, Eq.trans (World.drewN_drewN _ _ _) (congrArg (World.drewN _) (Nat.add_assoc _ _ _))⟩)) | (go_at_call 14; (with_reducible refine (strings_IndexByte.calls (t111.extract ((ji45) : Int).toNat t111.size) 92 t113 _ A48.out).mono ?_); rintro e w' ⟨rfl, ⟨nd, rfl⟩⟩; (try first | exact ⟨rfl, _, World.drewN_drewN _ _ _⟩ | exact ⟨rfl, _, Eq.trans (World.drewN_drewN _ _ _) (congrArg (World.drewN _) (Nat.add_assoc _ _ _))⟩))))
                              go_ret2
                              exact ⟨by first | rfl | (simp [errW_none, errW_some] <;> rfl) | (simp only [← hji45, ← hji50]; first | rfl | (simp [errW_none, errW_some] <;> rfl)) | (simp [*, errW_none, errW_some] <;> rfl), by repeat (first | (with_reducible first | exact HB.out | apply below_alloc | apply pw_below_drewN | apply below_drew1) | exact HB.out)⟩
                            · rw [if_neg c52] at H
                              exact absurd H (by simp)
                          · rw [if_neg c51] at H
                            exact absurd H (by simp)
                        · rw [if_neg c49] at H
                          have c49b0 : decide ((wrap64 (t112 + 2)) < (wrap64 ((wrap64 (t113 + (wrap64 (t112 + 2)))) + 1))) = false := decide_eq_false c49
                          clear c49
                          simp only [Option.some.injEq, Prod.mk.injEq] at H
                          obtain ⟨rfl, rfl⟩ := H
                          go_wp2_with (first | (go_at_call 13; (with_reducible refine (dwarf_zzReplaceAll.calls kj24 a0 (⟨#[47]⟩ : ByteArray) (⟨#[92]⟩ : ByteArray) t111 _ A41.out).mono ?_); rintro e w56 ⟨rfl, hb⟩; have n0_ := Aside0.mk (below_step (by repeat (first | (with_reducible first | exact HB.out | apply below_alloc | apply pw_below_drewN | apply below_drew1) | exact HB.out)) hb); clear HB; have HB := n0_; clear n0_; (try clear hb); (try clear hb2); (try clear hk); (try clear hi)) | (go_at_call 14; (with_reducible refine (strings_IndexByte.calls (t111.extract 2 t111.size) 92 t112 _ A43.out).mono ?_); rintro e w' ⟨rfl, ⟨nd, rfl⟩⟩; (try first | exact ⟨rfl, _, World.drewN_drewN _ _ _⟩ | exact ⟨rfl, _, Eq.trans (World.drewN_drewN _ _ _) (congrArg (World.drewN _) (Nat.add_assoc _ _ _))⟩)) | (go_at_call 14; (with_reducible refine (strings_IndexByte.calls (t111.extract ((ji45) : Int).toNat t111.size) 92 t113 _ A48.out).mono ?_); rintro e w' ⟨rfl, ⟨nd, rfl⟩⟩; (try first | exact ⟨rfl, _, World.drewN_drewN _ _ _⟩ | exact ⟨rfl, _, Eq.trans (World.drewN_drewN _ _ _) (congrArg (World.drewN _) (Nat.add_assoc _ _ _))⟩)))
                          repeat (go_quiet (first | (go_at_call 13; (with_reducible refine (dwarf_zzReplaceAll.calls kj24 a0 (⟨#[47]⟩ : ByteArray) (⟨#[92]⟩ : ByteArray) t111 _ A41.out).mono ?_); rintro e w56 ⟨rfl, hb⟩; have n0_ := Aside0.mk (below_step (by repeat (first | (with_reducible first | exact HB.out | apply below_alloc | apply pw_below_drewN | apply below_drew1) | exact HB.out)) hb); clear HB; have HB := n0_; clear n0_; (try clear hb); (try clear hb2); (try clear hk); (try clear hi)) | (go_at_call 14; (with_reducible refine (strings_IndexByte.calls (t111.extract 2 t111.size) 92 t112 _ A43.out).mono ?_); rintro e w' ⟨rfl, ⟨nd, rfl⟩⟩; (try first | exact ⟨rfl, _, World.drewN_drewN _ _ _⟩ | exact ⟨rfl, _, Eq.trans (World.drewN_drewN _ _ _) (congrArg (World.drewN _) (Nat.add_assoc _ _ _))⟩)) | (go_at_call 14; (with_reducible refine (strings_IndexByte.calls (t111.extract ((ji45) : Int).toNat t111.size) 92 t113 _ A48.out).mono ?_); rintro e w' ⟨rfl, ⟨nd, rfl⟩⟩; (try first | exact ⟨rfl, _, World.drewN_drewN _ _ _⟩ | exact ⟨rfl, _, Eq.trans (World.drewN_drewN _ _ _) (congrArg (World.drewN _) (Nat.add_assoc _ _ _))⟩))); try go_wp2_with (first | (go_at_call 13; (with_reducible refine (dwarf_zzReplaceAll.calls kj24 a0 (⟨#[47]⟩ : ByteArray) (⟨#[92]⟩ : ByteArray) t111 _ A41.out).mono ?_); rintro e w56 ⟨rfl, hb⟩; have n0_ := Aside0.mk (below_step (by repeat (first | (with_reducible first | exact HB.out | apply below_alloc | apply pw_below_drewN | apply below_drew1) | exact HB.out)) hb); clear HB; have HB := n0_; clear n0_; (try clear hb); (try clear hb2); (try clear hk); (try clear hi)) | (go_at_call 14; (with_reducible refine (strings_IndexByte.calls (t111.extract 2 t111.size) 92 t112 _ A43.out).mono ?_); rintro e w' ⟨rfl, ⟨nd, rfl⟩⟩; (try first | exact ⟨rfl, _, World.drewN_drewN _ _ _⟩ | exact ⟨rfl, _, Eq.trans (World.drewN_drewN _ _ _) (congrArg (World.drewN _) (Nat.add_assoc _ _ _))⟩)) | (go_at_call 14; (with_reducible refine (strings_IndexByte.calls (t111.extract ((ji45) : Int).toNat t111.size) 92 t113 _ A48.out).mono ?_); rintro e w' ⟨rfl, ⟨nd, rfl⟩⟩; (try first | exact ⟨rfl, _, World.drewN_drewN _ _ _⟩ | exact ⟨rfl, _, Eq.trans (World.drewN_drewN _ _ _) (congrArg (World.drewN _) (Nat.add_assoc _ _ _))⟩))))
                          go_ret2
                          exact ⟨by first | rfl | (simp [errW_none, errW_some] <;> rfl) | (simp only [← hji45]; first | rfl | (simp [errW_none, errW_some] <;> rfl)) | (simp [*, errW_none, errW_some] <;> rfl), by repeat (first | (with_reducible first | exact HB.out | apply below_alloc | apply pw_below_drewN | apply below_drew1) | exact HB.out)⟩
                      · rw [if_neg c47] at H
                        exact absurd H (by simp)
                    · rw [if_neg c46] at H
                      exact absurd H (by simp)
                  · rw [if_neg c44] at H
                    have c44b0 : decide (2 < (wrap64 (t112 + 2))) = false := decide_eq_false c44
                    clear c44
                    simp only [Option.some.injEq, Prod.mk.injEq] at H
                    obtain ⟨rfl, rfl⟩ := H
                    go_wp2_with (first | (go_at_call 13; (with_reducible refine (dwarf_zzReplaceAll.calls kj24 a0 (⟨#[47]⟩ : ByteArray) (⟨#[92]⟩ : ByteArray) t111 _ A41.out).mono ?_); rintro e w57 ⟨rfl, hb⟩; have n0_ := Aside0.mk (below_step (by repeat (first | (with_reducible first | exact HB.out | apply below_alloc | apply pw_below_drewN | apply below_drew1) | exact HB.out)) hb); clear HB; have HB := n0_; clear n0_; (try clear hb); (try clear hb2); (try clear hk); (try clear hi)) | (go_at_call 14; (with_reducible refine (strings_IndexByte.calls (t111.extract 2 t111.size) 92 t112 _ A43.out).mono ?_); rintro e w' ⟨rfl, ⟨nd, rfl⟩⟩; (try first | exact ⟨rfl, _, World.drewN_drewN _ _ _⟩ | exact ⟨rfl, _, Eq.trans (World.drewN_drewN _ _ _) (congrArg (World.drewN _) (Nat.add_assoc _ _ _))⟩)))
                    repeat (go_quiet (first | (go_at_call 13; (with_reducible refine (dwarf_zzReplaceAll.calls kj24 a0 (⟨#[47]⟩ : ByteArray) (⟨#[92]⟩ : ByteArray) t111 _ A41.out).mono ?_); rintro e w57 ⟨rfl, hb⟩; have n0_ := Aside0.mk (below_step (by repeat (first | (with_reducible first | exact HB.out | apply below_alloc | apply pw_below_drewN | apply below_drew1) | exact HB.out)) hb); clear HB; have HB := n0_; clear n0_; (try clear hb); (try clear hb2); (try clear hk); (try clear hi)) | (go_at_call 14; (with_reducible refine (strings_IndexByte.calls (t111.extract 2 t111.size) 92 t112 _ A43.out).mono ?_); rintro e w' ⟨rfl, ⟨nd, rfl⟩⟩; (try first | exact ⟨rfl, _, World.drewN_drewN _ _ _⟩ | exact ⟨rfl, _, Eq.trans (World.drewN_drewN _ _ _) (congrArg (World.drewN _) (Nat.add_assoc _ _ _))⟩))); try go_wp2_with (first | (go_at_call 13; (with_reducible refine (dwarf_zzReplaceAll.calls kj24 a0 (⟨#[47]⟩ : ByteArray) (⟨#[92]⟩ : ByteArray) t111 _ A41.out).mono ?_); rintro e w57 ⟨rfl, hb⟩; have n0_ := Aside0.mk (below_step (by repeat (first | (with_reducible first | exact HB.out | apply below_alloc | apply pw_below_drewN | apply below_drew1) | exact HB.out)) hb); clear HB; have HB := n0_; clear n0_; (try clear hb); (try clear hb2); (try clear hk); (try clear hi)) | (go_at_call 14; (with_reducible refine (strings_IndexByte.calls (t111.extract 2 t111.size) 92 t112 _ A43.out).mono ?_); rintro e w' ⟨rfl, ⟨nd, rfl⟩⟩; (try first | exact ⟨rfl, _, World.drewN_drewN _ _ _⟩ | exact ⟨rfl, _, Eq.trans (World.drewN_drewN _ _ _) (congrArg (World.drewN _) (Nat.add_assoc _ _ _))⟩))))
                    go_ret2
                    exact ⟨by first | rfl | (simp [errW_none, errW_some] <;> rfl) | (simp [*, errW_none, errW_some] <;> rfl), by repeat (first | (with_reducible first | exact HB.out | apply below_alloc | apply pw_below_drewN | apply below_drew1) | exact HB.out)⟩
                · rw [if_neg c42] at H
                  exact absurd H (by simp)
              · replace c40 := Bool.eq_false_iff.mpr c40
                subst c40
                have H1 : (some ((⟨#[]⟩ : ByteArray), a0)) = some (r1, r2) := by rw [if_neg (show ¬ (false = true) by decide)] at H; exact H
                clear H
                have H := H1
                clear H1
                simp only [Option.some.injEq, Prod.mk.injEq] at H
                obtain ⟨rfl, rfl⟩ := H
                go_wp2
                repeat (go_quiet (fail); try go_wp2)
                go_ret2
                exact ⟨by first | rfl | (simp [errW_none, errW_some] <;> rfl) | (simp [*, errW_none, errW_some] <;> rfl), by repeat (first | (with_reducible first | exact HB.out | apply below_alloc | apply pw_below_drewN | apply below_drew1) | exact HB.out)⟩

end Go.Proofs.YtepealmdnaondaaDoor.PSpl
