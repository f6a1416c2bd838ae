-- Printed by a program of this session (mkprint.py over the kit's print.py)
import Derived.Test.YtnooghnbohjmlaaDoorMa
import Derived.Test.YtnooghnbohjmlaaDoorMc
import Derived.Test.YtnooghnbohjmlaaDoorPLlawsnumbersright
namespace Go.Proofs.YtnooghnbohjmlaaDoor.PPl
open Go.RowKit Go.Proofs.YtnooghnbohjmlaaDoorW.PrintWords Go.Proofs.YtnooghnbohjmlaaDoorW.PrintLast Go.Proofs.YtnooghnbohjmlaaDoorW.PrintMore
attribute [local go_sem] max2_int max_two   -- for this text's walks alone
set_option linter.unusedVariables false
set_option linter.unusedSimpArgs false

/-! ### laws_FnLineSpecial: function 11 -/
def laws_FnLineSpecial.j0 : Nat → Int → Int → Int → Int → Int → Int → Bool → Int → Int → Int → Int → Int → Option (Bool)
  | 0, _, _, _, _, _, _, _, _, _, _, _, _ => none
  | k + 1, x0, x1, x2, x3, x4, x5, x39, x323000, x323001, x323002, x323003, x323004 => if x39 = true then (some true) else (if x2 = 0 then (none) else (if (wrap64 ((wrap64 (1 + x1)) + (Int.tmod (wrap64 (x4 - x3)) x2))) < 0 then (some true) else ((laws_rowsOf.f k x323000 x323001 x323002 x323003 x323004 x5 (([(x4) % 256] : List Int)) 2).bind fun bt327 => (if bt327.2 = true then (if 0 < (bt327.1.length : Int) then (if ((rd_T38 bt327.1 0).f0) = (IntKind.u64.wrap (x5 + (IntKind.u64.wrap (wrap64 (x0 * (wrap64 (Int.tdiv (wrap64 (x4 - x3)) x2))))))) then (if ((rd_T38 bt327.1 0).f3) = (wrap64 ((wrap64 (1 + x1)) + (Int.tmod (wrap64 (x4 - x3)) x2))) then (if 1 < (bt327.1.length : Int) then (some (((rd_T38 bt327.1 1).f0) == (IntKind.u64.wrap (x5 + (IntKind.u64.wrap (wrap64 (x0 * (wrap64 (Int.tdiv (wrap64 (x4 - x3)) x2))))))))) else (none)) else (some false)) else (some false)) else (none)) else (some false)))))
def laws_FnLineSpecial.f (k : Nat) (a0 : Int) (a1 : Int) (a2 : Int) (a3 : Int) (a4 : Int) (a5 : Int) : Option (Bool) := (laws_numbers_right.f a0 1 a1 a2 a3).bind fun t323 => (if t323 = true then (if a4 < a3 then (laws_FnLineSpecial.j0 k a0 a1 a2 a3 a4 a5 true a0 1 a1 a2 a3) else (if a4 > 255 then (laws_FnLineSpecial.j0 k a0 a1 a2 a3 a4 a5 true a0 1 a1 a2 a3) else (laws_FnLineSpecial.j0 k a0 a1 a2 a3 a4 a5 (decide (a5 > 4611686018427387904)) a0 1 a1 a2 a3))) else (laws_FnLineSpecial.j0 k a0 a1 a2 a3 a4 a5 true a0 1 a1 a2 a3))
theorem laws_FnLineSpecial.mono_l : ∀ k, (∀ y0 y1 y2 y3 y4 y5 y6 y7 y8 y9 y10 y11, LeO (laws_FnLineSpecial.j0 k y0 y1 y2 y3 y4 y5 y6 y7 y8 y9 y10 y11) (laws_FnLineSpecial.j0 (k + 1) y0 y1 y2 y3 y4 y5 y6 y7 y8 y9 y10 y11))
  | 0 => fun _ _ _ _ _ _ _ _ _ _ _ _ r h => by simp [laws_FnLineSpecial.j0] at h
  | k + 1 => by
    have ih0 := laws_FnLineSpecial.mono_l k
    · intro y0 y1 y2 y3 y4 y5 y6 y7 y8 y9 y10 y11
      unfold laws_FnLineSpecial.j0
      repeat' first
      | (with_reducible exact ih0 _ _ _ _ _ _ _ _ _ _ _ _)
      | (with_reducible exact laws_rowsOf.mono _ _ _ _ _ _ _ _ _)
      | (with_reducible exact LeO.refl _)
      | (with_reducible exact LeO.none _)
      | (with_reducible refine LeO.ite ?_ ?_)
      | (with_reducible refine LeO.bind ?_ (fun _ => ?_))
      | exact ih0 _ _ _ _ _ _ _ _ _ _ _ _
      | exact laws_rowsOf.mono _ _ _ _ _ _ _ _ _
      | exact LeO.none _
      | refine LeO.ite ?_ ?_
      | refine LeO.bind ?_ (fun _ => ?_)
theorem laws_FnLineSpecial.mono : ∀ a0 a1 a2 a3 a4 a5 k, LeO (laws_FnLineSpecial.f k a0 a1 a2 a3 a4 a5) (laws_FnLineSpecial.f (k + 1) a0 a1 a2 a3 a4 a5) := by
  intro a0 a1 a2 a3 a4 a5 k
  have ih0 := laws_FnLineSpecial.mono_l k
  unfold laws_FnLineSpecial.f
  repeat' first
      | (with_reducible exact ih0 _ _ _ _ _ _ _ _ _ _ _ _)
      | (with_reducible exact laws_rowsOf.mono _ _ _ _ _ _ _ _ _)
      | (with_reducible exact LeO.refl _)
      | (with_reducible exact LeO.none _)
      | (with_reducible refine LeO.ite ?_ ?_)
      | (with_reducible refine LeO.bind ?_ (fun _ => ?_))
      | exact ih0 _ _ _ _ _ _ _ _ _ _ _ _
      | exact laws_rowsOf.mono _ _ _ _ _ _ _ _ _
      | exact LeO.none _
      | refine LeO.ite ?_ ?_
      | refine LeO.bind ?_ (fun _ => ?_)
set_option maxHeartbeats 8000000 in
set_option maxRecDepth 100000 in
theorem laws_FnLineSpecial.calls (k : Nat) (a0 : Int) (a1 : Int) (a2 : Int) (a3 : Int) (a4 : Int) (a5 : Int) (r : Bool) (w : World) (h : laws_FnLineSpecial.f k a0 a1 a2 a3 a4 a5 = some r) (hG : Glob w) (hrt : r = true) :
    Calls Tryd.prog 11 #[.int .i64 a0, .int .i64 a1, .int .i64 a2, .int .i64 a3, .int .i64 a4, .int .u64 a5] w fun e w' => e = .returned (.bool r) ∧ Below w.heap.size w w' := by
  have HGL := Aside0.mk hG
  clear hG
  have HRT := Aside0.mk hrt
  clear hrt
  have hu31 := Tryd.underlying31
  have HB := Aside0.mk (Below.refl w.heap.size w)
  have H : ((laws_numbers_right.f a0 1 a1 a2 a3).bind fun t323 => (if t323 = true then (if a4 < a3 then (laws_FnLineSpecial.j0 k a0 a1 a2 a3 a4 a5 true a0 1 a1 a2 a3) else (if a4 > 255 then (laws_FnLineSpecial.j0 k a0 a1 a2 a3 a4 a5 true a0 1 a1 a2 a3) else (laws_FnLineSpecial.j0 k a0 a1 a2 a3 a4 a5 (decide (a5 > 4611686018427387904)) a0 1 a1 a2 a3))) else (laws_FnLineSpecial.j0 k a0 a1 a2 a3 a4 a5 true a0 1 a1 a2 a3))) = some r := h
  clear h
  have HC7 := Aside0.mk H
  clear H
  go_enter Tryd.func11, Tryd.ntmps11
  go_upto_region 2 with (first | ((with_reducible refine gate_dst (N := 13) rfl ?_); refine box_event ?hg (N := 13) ?hd (cs := #[.int .i64 0, .int .i64 0, .int .i64 0, .int .i64 0, .int .i64 0]) (t := 31) ?hr ?_; (case hd => rfl); (case hg => rfl); (case hr => first | (go_simp; done) | (go_simp; rfl)); intro gb322 hg w8 hbox hb; have n0_ := Aside0.mk (below_step qB hb); have n1_ := Aside0.mk (hbox); have n2_ := Aside0.mk ((by rw [hg]; exact (below_size qB) : w.heap.size ≤ gb322)); have n3_ := Aside0.mk ((by rw [hg]; exact (below_size qB) : w.heap.size ≤ gb322)); clear HB; have HB := n0_; have BK322 := n1_; have GW322 := n2_; have GE322 := n3_; clear n0_ n1_ n2_ n3_; clear hb hbox hg; have hcz9_0 : w8.cell? ⟨gb322, 0, none⟩ = some (.int .i64 0) := (blk_cell BK322.out 0).trans rfl; have hcz9_1 : w8.cell? ⟨gb322, 1, none⟩ = some (.int .i64 0) := (blk_cell BK322.out 1).trans rfl; have hcz9_2 : w8.cell? ⟨gb322, 2, none⟩ = some (.int .i64 0) := (blk_cell BK322.out 2).trans rfl; have hcz9_3 : w8.cell? ⟨gb322, 3, none⟩ = some (.int .i64 0) := (blk_cell BK322.out 3).trans rfl; have hcz9_4 : w8.cell? ⟨gb322, 4, none⟩ = some (.int .i64 0) := (blk_cell BK322.out 4).trans rfl; have hfz9_0 := blk_frozen BK322.out 0; have hfz9_1 := blk_frozen BK322.out 1; have hfz9_2 := blk_frozen BK322.out 2; have hfz9_3 := blk_frozen BK322.out 3; have hfz9_4 := blk_frozen BK322.out 4))
  (try simp only [Act.put, List.setIfInBounds_toArray, List.set_cons_zero, List.set_cons_succ])
  go_cut [39] (fun v39 wc => ∃ (kq : Nat) (x39_6 : Bool), v39 = .bool x39_6 ∧ Aside0 (laws_FnLineSpecial.j0 kq a0 a1 a2 a3 a4 a5 x39_6 a0 1 a1 a2 a3 = some r) ∧ Aside0 (kq ≤ k) ∧ Aside0 (wc.heap[gb322]? = some (.cells #[.int .i64 a0, .int .i64 1, .int .i64 a1, .int .i64 a2, .int .i64 a3] 31 (0, 0))) ∧ Aside0 (Below w.heap.size w wc))
  case first =>
    have H := HC7.out
    clear HC7
    replace H := Option.bind_eq_some_iff.mp H
    obtain ⟨t323, A100, H⟩ := H
    replace H : (if t323 = true then (if a4 < a3 then (laws_FnLineSpecial.j0 k a0 a1 a2 a3 a4 a5 true a0 1 a1 a2 a3) else (if a4 > 255 then (laws_FnLineSpecial.j0 k a0 a1 a2 a3 a4 a5 true a0 1 a1 a2 a3) else (laws_FnLineSpecial.j0 k a0 a1 a2 a3 a4 a5 (decide (a5 > 4611686018427387904)) a0 1 a1 a2 a3))) else (laws_FnLineSpecial.j0 k a0 a1 a2 a3 a4 a5 true a0 1 a1 a2 a3)) = some r := H
    have A10 := Aside0.mk A100
    clear A100
    by_cases c11 : t323 = true
    · subst c11
      have H1 : (if a4 < a3 then (laws_FnLineSpecial.j0 k a0 a1 a2 a3 a4 a5 true a0 1 a1 a2 a3) else (if a4 > 255 then (laws_FnLineSpecial.j0 k a0 a1 a2 a3 a4 a5 true a0 1 a1 a2 a3) else (laws_FnLineSpecial.j0 k a0 a1 a2 a3 a4 a5 (decide (a5 > 4611686018427387904)) a0 1 a1 a2 a3))) = some r := by rw [if_pos rfl] at H; exact H
      clear H
      have H := H1
      clear H1
      by_cases c12 : a4 < a3
      · rw [if_pos c12] at H
        have c12b0 : decide (a4 < a3) = true := decide_eq_true c12
        clear c12
        (first | rw [c12b0] | (simp only [i64_w, i32_w]; rw [c12b0]) | skip)
        have H' := Aside0.mk H
        clear H
        have hcz13_0 : w8.cell? ⟨gb322, 0, none⟩ = some (.int .i64 0) := (blk_cell BK322.out 0).trans rfl
        have hcz13_1 : w8.cell? ⟨gb322, 1, none⟩ = some (.int .i64 0) := (blk_cell BK322.out 1).trans rfl
        have hcz13_2 : w8.cell? ⟨gb322, 2, none⟩ = some (.int .i64 0) := (blk_cell BK322.out 2).trans rfl
        have hcz13_3 : w8.cell? ⟨gb322, 3, none⟩ = some (.int .i64 0) := (blk_cell BK322.out 3).trans rfl
        have hcz13_4 : w8.cell? ⟨gb322, 4, none⟩ = some (.int .i64 0) := (blk_cell BK322.out 4).trans rfl
        have hfz13_0 := blk_frozen BK322.out 0
        have hfz13_1 := blk_frozen BK322.out 1
        have hfz13_2 := blk_frozen BK322.out 2
        have hfz13_3 := blk_frozen BK322.out 3
        have hfz13_4 := blk_frozen BK322.out 4
        go_wp2_with (first | ((with_reducible refine gate_callee (f := 18) rfl ?_); refine goesL_ (some 25) rfl rfl Tryd.func18 (by kernel_rfl) rfl #[.agg #[.int .i64 a0, .int .i64 1, .int .i64 a1, .int .i64 a2, .int .i64 a3]] rfl qL ?_; (with_reducible refine (laws_numbers_right.calls a0 1 a1 a2 a3 true _ A10.out).mono ?_); rintro e w14 ⟨rfl, hb⟩; refine ⟨_, rfl, ?_⟩; have n0_ := Aside0.mk (blk_below (g := gb322) (o := .cells #[.int .i64 a0, .int .i64 1, .int .i64 a1, .int .i64 a2, .int .i64 a3] 31 (0, 0)) (by (with_reducible repeat (first | refine blk_drewN ?_ _ | refine blk_drew ?_ | refine blk_alloc ?_ _)); refine blk_put (cs := #[.int .i64 a0, .int .i64 1, .int .i64 a1, .int .i64 a2, .int .i64 0]) ?_ 4 _ rfl; (with_reducible repeat (first | refine blk_drewN ?_ _ | refine blk_drew ?_ | refine blk_alloc ?_ _)); refine blk_put (cs := #[.int .i64 a0, .int .i64 1, .int .i64 a1, .int .i64 0, .int .i64 0]) ?_ 3 _ rfl; (with_reducible repeat (first | refine blk_drewN ?_ _ | refine blk_drew ?_ | refine blk_alloc ?_ _)); refine blk_put (cs := #[.int .i64 a0, .int .i64 1, .int .i64 0, .int .i64 0, .int .i64 0]) ?_ 2 _ rfl; (with_reducible repeat (first | refine blk_drewN ?_ _ | refine blk_drew ?_ | refine blk_alloc ?_ _)); refine blk_put (cs := #[.int .i64 a0, .int .i64 0, .int .i64 0, .int .i64 0, .int .i64 0]) ?_ 1 _ rfl; (with_reducible repeat (first | refine blk_drewN ?_ _ | refine blk_drew ?_ | refine blk_alloc ?_ _)); refine blk_put (cs := #[.int .i64 0, .int .i64 0, .int .i64 0, .int .i64 0, .int .i64 0]) ?_ 0 _ rfl; (with_reducible repeat (first | refine blk_drewN ?_ _ | refine blk_drew ?_ | refine blk_alloc ?_ _)); exact BK322.out) hb); have n1_ := Aside0.mk (below_step (qG GE322.out) hb); clear BK322; clear HB; have BK322 := n0_; have HB := n1_; clear n0_ n1_; (try clear hb); (try clear hb2); (try clear hk); (try clear hi)))
        go_meet
        case rel => exact ⟨_, (true), (by first | rfl | (simp; done) | (simp [*]; done)), H', ⟨by first | omega | exact Nat.le_refl _⟩, ⟨by (with_reducible repeat (first | refine blk_drewN ?_ _ | refine blk_drew ?_ | refine blk_alloc ?_ _)); exact BK322.out⟩, ⟨by repeat (first | (with_reducible first | exact HB.out | apply below_alloc | apply pw_below_drewN | apply below_drew1 | refine below_set ?_ GE322.out) | exact HB.out)⟩⟩
      · rw [if_neg c12] at H
        have c12b0 : decide (a4 < a3) = false := decide_eq_false c12
        clear c12
        (first | rw [c12b0] | (simp only [i64_w, i32_w]; rw [c12b0]) | skip)
        by_cases c15 : a4 > 255
        · rw [if_pos c15] at H
          have c15b0 : decide (255 < a4) = true := decide_eq_true c15
          clear c15
          have H' := Aside0.mk H
          clear H
          have hcz16_0 : w8.cell? ⟨gb322, 0, none⟩ = some (.int .i64 0) := (blk_cell BK322.out 0).trans rfl
          have hcz16_1 : w8.cell? ⟨gb322, 1, none⟩ = some (.int .i64 0) := (blk_cell BK322.out 1).trans rfl
          have hcz16_2 : w8.cell? ⟨gb322, 2, none⟩ = some (.int .i64 0) := (blk_cell BK322.out 2).trans rfl
          have hcz16_3 : w8.cell? ⟨gb322, 3, none⟩ = some (.int .i64 0) := (blk_cell BK322.out 3).trans rfl
          have hcz16_4 : w8.cell? ⟨gb322, 4, none⟩ = some (.int .i64 0) := (blk_cell BK322.out 4).trans rfl
          have hfz16_0 := blk_frozen BK322.out 0
          have hfz16_1 := blk_frozen BK322.out 1
          have hfz16_2 := blk_frozen BK322.out 2
          have hfz16_3 := blk_frozen BK322.out 3
          have hfz16_4 := blk_frozen BK322.out 4
          go_wp2_with (first | ((with_reducible refine gate_callee (f := 18) rfl ?_); refine goesL_ (some 25) rfl rfl Tryd.func18 (by kernel_rfl) rfl #[.agg #[.int .i64 a0, .int .i64 1, .int .i64 a1, .int .i64 a2, .int .i64 a3]] rfl qL ?_; (with_reducible refine (laws_numbers_right.calls a0 1 a1 a2 a3 true _ A10.out).mono ?_); rintro e w17 ⟨rfl, hb⟩; refine ⟨_, rfl, ?_⟩; have n0_ := Aside0.mk (blk_below (g := gb322) (o := .cells #[.int .i64 a0, .int .i64 1, .int .i64 a1, .int .i64 a2, .int .i64 a3] 31 (0, 0)) (by (with_reducible repeat (first | refine blk_drewN ?_ _ | refine blk_drew ?_ | refine blk_alloc ?_ _)); refine blk_put (cs := #[.int .i64 a0, .int .i64 1, .int .i64 a1, .int .i64 a2, .int .i64 0]) ?_ 4 _ rfl; (with_reducible repeat (first | refine blk_drewN ?_ _ | refine blk_drew ?_ | refine blk_alloc ?_ _)); refine blk_put (cs := #[.int .i64 a0, .int .i64 1, .int .i64 a1, .int .i64 0, .int .i64 0]) ?_ 3 _ rfl; (with_reducible repeat (first | refine blk_drewN ?_ _ | refine blk_drew ?_ | refine blk_alloc ?_ _)); refine blk_put (cs := #[.int .i64 a0, .int .i64 1, .int .i64 0, .int .i64 0, .int .i64 0]) ?_ 2 _ rfl; (with_reducible repeat (first | refine blk_drewN ?_ _ | refine blk_drew ?_ | refine blk_alloc ?_ _)); refine blk_put (cs := #[.int .i64 a0, .int .i64 0, .int .i64 0, .int .i64 0, .int .i64 0]) ?_ 1 _ rfl; (with_reducible repeat (first | refine blk_drewN ?_ _ | refine blk_drew ?_ | refine blk_alloc ?_ _)); refine blk_put (cs := #[.int .i64 0, .int .i64 0, .int .i64 0, .int .i64 0, .int .i64 0]) ?_ 0 _ rfl; (with_reducible repeat (first | refine blk_drewN ?_ _ | refine blk_drew ?_ | refine blk_alloc ?_ _)); exact BK322.out) hb); have n1_ := Aside0.mk (below_step (qG GE322.out) hb); clear BK322; clear HB; have BK322 := n0_; have HB := n1_; clear n0_ n1_; (try clear hb); (try clear hb2); (try clear hk); (try clear hi)))
          go_meet
          case rel => exact ⟨_, (true), (by first | rfl | (simp; done) | (simp [*]; done)), H', ⟨by first | omega | exact Nat.le_refl _⟩, ⟨by (with_reducible repeat (first | refine blk_drewN ?_ _ | refine blk_drew ?_ | refine blk_alloc ?_ _)); exact BK322.out⟩, ⟨by repeat (first | (with_reducible first | exact HB.out | apply below_alloc | apply pw_below_drewN | apply below_drew1 | refine below_set ?_ GE322.out) | exact HB.out)⟩⟩
        · rw [if_neg c15] at H
          have c15b0 : decide (255 < a4) = false := decide_eq_false c15
          clear c15
          have H' := Aside0.mk H
          clear H
          have hcz18_0 : w8.cell? ⟨gb322, 0, none⟩ = some (.int .i64 0) := (blk_cell BK322.out 0).trans rfl
          have hcz18_1 : w8.cell? ⟨gb322, 1, none⟩ = some (.int .i64 0) := (blk_cell BK322.out 1).trans rfl
          have hcz18_2 : w8.cell? ⟨gb322, 2, none⟩ = some (.int .i64 0) := (blk_cell BK322.out 2).trans rfl
          have hcz18_3 : w8.cell? ⟨gb322, 3, none⟩ = some (.int .i64 0) := (blk_cell BK322.out 3).trans rfl
          have hcz18_4 : w8.cell? ⟨gb322, 4, none⟩ = some (.int .i64 0) := (blk_cell BK322.out 4).trans rfl
          have hfz18_0 := blk_frozen BK322.out 0
          have hfz18_1 := blk_frozen BK322.out 1
          have hfz18_2 := blk_frozen BK322.out 2
          have hfz18_3 := blk_frozen BK322.out 3
          have hfz18_4 := blk_frozen BK322.out 4
          go_wp2_with (first | ((with_reducible refine gate_callee (f := 18) rfl ?_); refine goesL_ (some 25) rfl rfl Tryd.func18 (by kernel_rfl) rfl #[.agg #[.int .i64 a0, .int .i64 1, .int .i64 a1, .int .i64 a2, .int .i64 a3]] rfl qL ?_; (with_reducible refine (laws_numbers_right.calls a0 1 a1 a2 a3 true _ A10.out).mono ?_); rintro e w19 ⟨rfl, hb⟩; refine ⟨_, rfl, ?_⟩; have n0_ := Aside0.mk (blk_below (g := gb322) (o := .cells #[.int .i64 a0, .int .i64 1, .int .i64 a1, .int .i64 a2, .int .i64 a3] 31 (0, 0)) (by (with_reducible repeat (first | refine blk_drewN ?_ _ | refine blk_drew ?_ | refine blk_alloc ?_ _)); refine blk_put (cs := #[.int .i64 a0, .int .i64 1, .int .i64 a1, .int .i64 a2, .int .i64 0]) ?_ 4 _ rfl; (with_reducible repeat (first | refine blk_drewN ?_ _ | refine blk_drew ?_ | refine blk_alloc ?_ _)); refine blk_put (cs := #[.int .i64 a0, .int .i64 1, .int .i64 a1, .int .i64 0, .int .i64 0]) ?_ 3 _ rfl; (with_reducible repeat (first | refine blk_drewN ?_ _ | refine blk_drew ?_ | refine blk_alloc ?_ _)); refine blk_put (cs := #[.int .i64 a0, .int .i64 1, .int .i64 0, .int .i64 0, .int .i64 0]) ?_ 2 _ rfl; (with_reducible repeat (first | refine blk_drewN ?_ _ | refine blk_drew ?_ | refine blk_alloc ?_ _)); refine blk_put (cs := #[.int .i64 a0, .int .i64 0, .int .i64 0, .int .i64 0, .int .i64 0]) ?_ 1 _ rfl; (with_reducible repeat (first | refine blk_drewN ?_ _ | refine blk_drew ?_ | refine blk_alloc ?_ _)); refine blk_put (cs := #[.int .i64 0, .int .i64 0, .int .i64 0, .int .i64 0, .int .i64 0]) ?_ 0 _ rfl; (with_reducible repeat (first | refine blk_drewN ?_ _ | refine blk_drew ?_ | refine blk_alloc ?_ _)); exact BK322.out) hb); have n1_ := Aside0.mk (below_step (qG GE322.out) hb); clear BK322; clear HB; have BK322 := n0_; have HB := n1_; clear n0_ n1_; (try clear hb); (try clear hb2); (try clear hk); (try clear hi)))
          go_meet
          case rel => exact ⟨_, (decide (a5 > 4611686018427387904)), (by first | rfl | (simp; done) | (simp [*]; done)), H', ⟨by first | omega | exact Nat.le_refl _⟩, ⟨by (with_reducible repeat (first | refine blk_drewN ?_ _ | refine blk_drew ?_ | refine blk_alloc ?_ _)); exact BK322.out⟩, ⟨by repeat (first | (with_reducible first | exact HB.out | apply below_alloc | apply pw_below_drewN | apply below_drew1 | refine below_set ?_ GE322.out) | exact HB.out)⟩⟩
    · replace c11 := Bool.eq_false_iff.mpr c11
      subst c11
      have H1 : (laws_FnLineSpecial.j0 k a0 a1 a2 a3 a4 a5 true a0 1 a1 a2 a3) = some r := by rw [if_neg (show ¬ (false = true) by decide)] at H; exact H
      clear H
      have H := H1
      clear H1
      have H' := Aside0.mk H
      clear H
      have hcz20_0 : w8.cell? ⟨gb322, 0, none⟩ = some (.int .i64 0) := (blk_cell BK322.out 0).trans rfl
      have hcz20_1 : w8.cell? ⟨gb322, 1, none⟩ = some (.int .i64 0) := (blk_cell BK322.out 1).trans rfl
      have hcz20_2 : w8.cell? ⟨gb322, 2, none⟩ = some (.int .i64 0) := (blk_cell BK322.out 2).trans rfl
      have hcz20_3 : w8.cell? ⟨gb322, 3, none⟩ = some (.int .i64 0) := (blk_cell BK322.out 3).trans rfl
      have hcz20_4 : w8.cell? ⟨gb322, 4, none⟩ = some (.int .i64 0) := (blk_cell BK322.out 4).trans rfl
      have hfz20_0 := blk_frozen BK322.out 0
      have hfz20_1 := blk_frozen BK322.out 1
      have hfz20_2 := blk_frozen BK322.out 2
      have hfz20_3 := blk_frozen BK322.out 3
      have hfz20_4 := blk_frozen BK322.out 4
      go_wp2_with (first | ((with_reducible refine gate_callee (f := 18) rfl ?_); refine goesL_ (some 25) rfl rfl Tryd.func18 (by kernel_rfl) rfl #[.agg #[.int .i64 a0, .int .i64 1, .int .i64 a1, .int .i64 a2, .int .i64 a3]] rfl qL ?_; (with_reducible refine (laws_numbers_right.calls a0 1 a1 a2 a3 false _ A10.out).mono ?_); rintro e w21 ⟨rfl, hb⟩; refine ⟨_, rfl, ?_⟩; have n0_ := Aside0.mk (blk_below (g := gb322) (o := .cells #[.int .i64 a0, .int .i64 1, .int .i64 a1, .int .i64 a2, .int .i64 a3] 31 (0, 0)) (by (with_reducible repeat (first | refine blk_drewN ?_ _ | refine blk_drew ?_ | refine blk_alloc ?_ _)); refine blk_put (cs := #[.int .i64 a0, .int .i64 1, .int .i64 a1, .int .i64 a2, .int .i64 0]) ?_ 4 _ rfl; (with_reducible repeat (first | refine blk_drewN ?_ _ | refine blk_drew ?_ | refine blk_alloc ?_ _)); refine blk_put (cs := #[.int .i64 a0, .int .i64 1, .int .i64 a1, .int .i64 0, .int .i64 0]) ?_ 3 _ rfl; (with_reducible repeat (first | refine blk_drewN ?_ _ | refine blk_drew ?_ | refine blk_alloc ?_ _)); refine blk_put (cs := #[.int .i64 a0, .int .i64 1, .int .i64 0, .int .i64 0, .int .i64 0]) ?_ 2 _ rfl; (with_reducible repeat (first | refine blk_drewN ?_ _ | refine blk_drew ?_ | refine blk_alloc ?_ _)); refine blk_put (cs := #[.int .i64 a0, .int .i64 0, .int .i64 0, .int .i64 0, .int .i64 0]) ?_ 1 _ rfl; (with_reducible repeat (first | refine blk_drewN ?_ _ | refine blk_drew ?_ | refine blk_alloc ?_ _)); refine blk_put (cs := #[.int .i64 0, .int .i64 0, .int .i64 0, .int .i64 0, .int .i64 0]) ?_ 0 _ rfl; (with_reducible repeat (first | refine blk_drewN ?_ _ | refine blk_drew ?_ | refine blk_alloc ?_ _)); exact BK322.out) hb); have n1_ := Aside0.mk (below_step (qG GE322.out) hb); clear BK322; clear HB; have BK322 := n0_; have HB := n1_; clear n0_ n1_; (try clear hb); (try clear hb2); (try clear hk); (try clear hi)))
      go_meet
      case rel => exact ⟨_, (true), (by first | rfl | (simp; done) | (simp [*]; done)), H', ⟨by first | omega | exact Nat.le_refl _⟩, ⟨by (with_reducible repeat (first | refine blk_drewN ?_ _ | refine blk_drew ?_ | refine blk_alloc ?_ _)); exact BK322.out⟩, ⟨by repeat (first | (with_reducible first | exact HB.out | apply below_alloc | apply pw_below_drewN | apply below_drew1 | refine below_set ?_ GE322.out) | exact HB.out)⟩⟩
  case rest =>
    clear HC7
    try clear c1
    try clear p2
    try clear c11
    try clear c12
    try clear c12b0
    try clear c15
    try clear c15b0
    try clear c18
    try clear hcz13_0
    try clear hcz13_1
    try clear hcz13_2
    try clear hcz13_3
    try clear hcz13_4
    try clear hcz16_0
    try clear hcz16_1
    try clear hcz16_2
    try clear hcz16_3
    try clear hcz16_4
    try clear hcz18_0
    try clear hcz18_1
    try clear hcz18_2
    try clear hcz18_3
    try clear hcz18_4
    try clear hcz20_0
    try clear hcz20_1
    try clear hcz20_2
    try clear hcz20_3
    try clear hcz20_4
    try clear hcz9_0
    try clear hcz9_1
    try clear hcz9_2
    try clear hcz9_3
    try clear hcz9_4
    try clear hfz13_0
    try clear hfz13_1
    try clear hfz13_2
    try clear hfz13_3
    try clear hfz13_4
    try clear hfz16_0
    try clear hfz16_1
    try clear hfz16_2
    try clear hfz16_3
    try clear hfz16_4
    try clear hfz18_0
    try clear hfz18_1
    try clear hfz18_2
    try clear hfz18_3
    try clear hfz18_4
    try clear hfz20_0
    try clear hfz20_1
    try clear hfz20_2
    try clear hfz20_3
    try clear hfz20_4
    try clear hfz9_0
    try clear hfz9_1
    try clear hfz9_2
    try clear hfz9_3
    try clear hfz9_4
    obtain ⟨kq, x39_6, rfl, HA, HJ6, BK322, HB⟩ := hcut
    cases kq with
    | zero => exact absurd HA.out (by simp [laws_FnLineSpecial.j0])
    | succ kj6 =>
      have H := HA.out
      clear HA
      simp only [laws_FnLineSpecial.j0] at H
      by_cases c22 : x39_6 = true
      · subst c22
        have H1 : (some true) = some r := by rw [if_pos rfl] at H; exact H
        clear H
        have H := H1
        clear H1
        obtain rfl := Option.some.inj H
        go_wp2
        go_ret
        exact ⟨by first | rfl | (simp [errW_none, errW_some] <;> rfl) | (simp [*, errW_none, errW_some] <;> rfl), by repeat (first | (with_reducible first | exact HB.out | apply below_alloc | apply pw_below_drewN | apply below_drew1 | refine below_set ?_ GE322.out) | exact HB.out)⟩
      · replace c22 := Bool.eq_false_iff.mpr c22
        subst c22
        have H1 : (if a2 = 0 then (none) else (if (wrap64 ((wrap64 (1 + a1)) + (Int.tmod (wrap64 (a4 - a3)) a2))) < 0 then (some true) else ((laws_rowsOf.f kj6 a0 1 a1 a2 a3 a5 (([(a4) % 256] : List Int)) 2).bind fun bt327 => (if bt327.2 = true then (if 0 < (bt327.1.length : Int) then (if ((rd_T38 bt327.1 0).f0) = (IntKind.u64.wrap (a5 + (IntKind.u64.wrap (wrap64 (a0 * (wrap64 (Int.tdiv (wrap64 (a4 - a3)) a2))))))) then (if ((rd_T38 bt327.1 0).f3) = (wrap64 ((wrap64 (1 + a1)) + (Int.tmod (wrap64 (a4 - a3)) a2))) then (if 1 < (bt327.1.length : Int) then (some (((rd_T38 bt327.1 1).f0) == (IntKind.u64.wrap (a5 + (IntKind.u64.wrap (wrap64 (a0 * (wrap64 (Int.tdiv (wrap64 (a4 - a3)) a2))))))))) else (none)) else (some false)) else (some false)) else (none)) else (some false))))) = some r := by rw [if_neg (show ¬ (false = true) by decide)] at H; exact H
        clear H
        have H := H1
        clear H1
        by_cases c23 : a2 = 0
        · rw [if_pos c23] at H
          exact absurd H (by simp)
        · rw [if_neg c23] at H
          have c23b0 : (a2 == 0) = false := beq_eq_false_iff_ne.mpr c23
          have c23b1 : (a2 != 0) = true := bne_iff_ne.mpr c23
          by_cases c24 : (wrap64 ((wrap64 (1 + a1)) + (Int.tmod (wrap64 (a4 - a3)) a2))) < 0
          · rw [if_pos c24] at H
            have c24b0 : decide ((wrap64 ((wrap64 (1 + a1)) + (Int.tmod (wrap64 (a4 - a3)) a2))) < 0) = true := decide_eq_true c24
            clear c24
            obtain rfl := Option.some.inj H
            go_wp2
            go_ret
            exact ⟨by first | rfl | (simp [errW_none, errW_some] <;> rfl) | (simp [*, errW_none, errW_some] <;> rfl), by repeat (first | (with_reducible first | exact HB.out | apply below_alloc | apply pw_below_drewN | apply below_drew1 | refine below_set ?_ GE322.out) | exact HB.out)⟩
          · rw [if_neg c24] at H
            have c24b0 : decide ((wrap64 ((wrap64 (1 + a1)) + (Int.tmod (wrap64 (a4 - a3)) a2))) < 0) = false := decide_eq_false c24
            clear c24
            obtain ⟨y324, hy324⟩ : ∃ y_ : List Int, y_ = (([(a4) % 256] : List Int)) := ⟨_, rfl⟩
            replace H : ((laws_rowsOf.f kj6 a0 1 a1 a2 a3 a5 y324 2).bind fun bt327 => (if bt327.2 = true then (if 0 < (bt327.1.length : Int) then (if ((rd_T38 bt327.1 0).f0) = (IntKind.u64.wrap (a5 + (IntKind.u64.wrap (wrap64 (a0 * (wrap64 (Int.tdiv (wrap64 (a4 - a3)) a2))))))) then (if ((rd_T38 bt327.1 0).f3) = (wrap64 ((wrap64 (1 + a1)) + (Int.tmod (wrap64 (a4 - a3)) a2))) then (if 1 < (bt327.1.length : Int) then (some (((rd_T38 bt327.1 1).f0) == (IntKind.u64.wrap (a5 + (IntKind.u64.wrap (wrap64 (a0 * (wrap64 (Int.tdiv (wrap64 (a4 - a3)) a2))))))))) else (none)) else (some false)) else (some false)) else (none)) else (some false))) = some r := by first | (rw [hy324]; with_reducible exact H) | (have H2_ := (Option.bind_some _ _).symm.trans H; rw [hy324]; with_reducible exact H2_) | (have H2_ := (Option.bind_some _ _).symm.trans H; with_reducible exact H2_) | with_reducible exact H | (rw [hy324]; exact H) | exact H
            have Ny324 := Aside0.mk hy324
            clear hy324
            replace H := Option.bind_eq_some_iff.mp H
            obtain ⟨⟨t327, t330⟩, A250, H⟩ := H
            replace H : (if t330 = true then (if 0 < (t327.length : Int) then (if ((rd_T38 t327 0).f0) = (IntKind.u64.wrap (a5 + (IntKind.u64.wrap (wrap64 (a0 * (wrap64 (Int.tdiv (wrap64 (a4 - a3)) a2))))))) then (if ((rd_T38 t327 0).f3) = (wrap64 ((wrap64 (1 + a1)) + (Int.tmod (wrap64 (a4 - a3)) a2))) then (if 1 < (t327.length : Int) then (some (((rd_T38 t327 1).f0) == (IntKind.u64.wrap (a5 + (IntKind.u64.wrap (wrap64 (a0 * (wrap64 (Int.tdiv (wrap64 (a4 - a3)) a2))))))))) else (none)) else (some false)) else (some false)) else (none)) else (some false)) = some r := H
            have A25 := Aside0.mk A250
            clear A250
            by_cases c26 : t330 = true
            · subst c26
              have H1 : (if 0 < (t327.length : Int) then (if ((rd_T38 t327 0).f0) = (IntKind.u64.wrap (a5 + (IntKind.u64.wrap (wrap64 (a0 * (wrap64 (Int.tdiv (wrap64 (a4 - a3)) a2))))))) then (if ((rd_T38 t327 0).f3) = (wrap64 ((wrap64 (1 + a1)) + (Int.tmod (wrap64 (a4 - a3)) a2))) then (if 1 < (t327.length : Int) then (some (((rd_T38 t327 1).f0) == (IntKind.u64.wrap (a5 + (IntKind.u64.wrap (wrap64 (a0 * (wrap64 (Int.tdiv (wrap64 (a4 - a3)) a2))))))))) else (none)) else (some false)) else (some false)) else (none)) = some r := by rw [if_pos rfl] at H; exact H
              clear H
              have H := H1
              clear H1
              by_cases c27 : 0 < (t327.length : Int)
              · rw [if_pos c27] at H
                have c27b0 : decide (0 < (t327.length : Int)) = true := decide_eq_true c27
                have c27b1 : decide (0 < t327.length) = true := decide_eq_true (by omega)
                clear c27
                by_cases c28 : ((rd_T38 t327 0).f0) = (IntKind.u64.wrap (a5 + (IntKind.u64.wrap (wrap64 (a0 * (wrap64 (Int.tdiv (wrap64 (a4 - a3)) a2)))))))
                · rw [if_pos c28] at H
                  have c28b0 : (((rd_T38 t327 0).f0) == (IntKind.u64.wrap (a5 + (IntKind.u64.wrap (wrap64 (a0 * (wrap64 (Int.tdiv (wrap64 (a4 - a3)) a2)))))))) = true := beq_iff_eq.mpr c28
                  have c28b1 : (((rd_T38 t327 0).f0) != (IntKind.u64.wrap (a5 + (IntKind.u64.wrap (wrap64 (a0 * (wrap64 (Int.tdiv (wrap64 (a4 - a3)) a2)))))))) = false := bne_eq_false_iff_eq.mpr c28
                  clear c28
                  by_cases c29 : ((rd_T38 t327 0).f3) = (wrap64 ((wrap64 (1 + a1)) + (Int.tmod (wrap64 (a4 - a3)) a2)))
                  · rw [if_pos c29] at H
                    have c29b0 : (((rd_T38 t327 0).f3) == (wrap64 ((wrap64 (1 + a1)) + (Int.tmod (wrap64 (a4 - a3)) a2)))) = true := beq_iff_eq.mpr c29
                    have c29b1 : (((rd_T38 t327 0).f3) != (wrap64 ((wrap64 (1 + a1)) + (Int.tmod (wrap64 (a4 - a3)) a2)))) = false := bne_eq_false_iff_eq.mpr c29
                    clear c29
                    by_cases c30 : 1 < (t327.length : Int)
                    · rw [if_pos c30] at H
                      have c30b0 : decide (1 < (t327.length : Int)) = true := decide_eq_true c30
                      have c30b1 : decide (1 < t327.length) = true := decide_eq_true (by omega)
                      clear c30
                      obtain rfl := Option.some.inj H
                      have hcz31_0 : wc.cell? ⟨gb322, 0, none⟩ = some (.int .i64 a0) := (blk_cell BK322.out 0).trans rfl
                      have hcz31_1 : wc.cell? ⟨gb322, 1, none⟩ = some (.int .i64 1) := (blk_cell BK322.out 1).trans rfl
                      have hcz31_2 : wc.cell? ⟨gb322, 2, none⟩ = some (.int .i64 a1) := (blk_cell BK322.out 2).trans rfl
                      have hcz31_3 : wc.cell? ⟨gb322, 3, none⟩ = some (.int .i64 a2) := (blk_cell BK322.out 3).trans rfl
                      have hcz31_4 : wc.cell? ⟨gb322, 4, none⟩ = some (.int .i64 a3) := (blk_cell BK322.out 4).trans rfl
                      have hfz31_0 := blk_frozen BK322.out 0
                      have hfz31_1 := blk_frozen BK322.out 1
                      have hfz31_2 := blk_frozen BK322.out 2
                      have hfz31_3 := blk_frozen BK322.out 3
                      have hfz31_4 := blk_frozen BK322.out 4
                      go_wp2_with (first | ((with_reducible refine gate_dst (N := 56) rfl ?_); refine Kd.R_lit (Kd.int .u8) _ 5 ?hg (N := 56) ?hd (xs := ([(a4) % 256] : List Int)) (inner := [.int .u8 ((a4) % 256)]) (ok := fun _ => True) (okp := fun _ => True) ?hr ?hp (fun _ hk => hk) trivial (Below.refl _ _) (Nat.le_refl _) (by simp) ?_; (case hd => rfl); (case hg => rfl); (case hr => first | (go_simp; done) | (go_simp; rfl)); (case hp => exact (Reps.one (show Kd.M (Kd.int .u8) _ _ _ ((a4) % 256) [.int .u8 ((a4) % 256)] from rfl) (Reps.none _ _))); intro v325 w32 ho33 hb hg_ hnew_; clear hg_ hnew_; (first | rw [← Ny324.out] at ho33 | (simp only [Int.reduceToNat] at ho33; rw [← Ny324.out] at ho33)); have n0_ := Aside0.mk (Kd.R_lower ho33 (below_size (qG GE322.out))); have n1_ := Aside0.mk (blk_below (g := gb322) (o := .cells #[.int .i64 a0, .int .i64 1, .int .i64 a1, .int .i64 a2, .int .i64 a3] 31 (0, 0)) (qK BK322.out) hb); have n2_ := Aside0.mk (below_step (qG GE322.out) hb); clear BK322; clear HB; have HO326 := n0_; have BK322 := n1_; have HB := n2_; clear n0_ n1_ n2_; clear hb ho33; obtain ⟨Ao34, co34, eo34⟩ := Kd.R_slice HO326.out; subst eo34) | ((with_reducible refine gate_callee (f := 19) rfl ?_); refine goesL_ (some 57) rfl rfl Tryd.func19 (by kernel_rfl) rfl #[.agg #[.int .i64 a0, .int .i64 1, .int .i64 a1, .int .i64 a2, .int .i64 a3], .int .u64 a5, .slice Ao34 y324.length co34, .int .i64 2] rfl qL ?_; (with_reducible refine (laws_rowsOf.calls kj6 a0 1 a1 a2 a3 a5 _ _ y324 2 t327 true _ ?side1 ?side2 A25.out ?sideG).mono ?_); (case sideG => exact HGL.out.below (qG GE322.out)); (case side1 => exact qC (Kd.R_reads' HO326.out).2.2); (case side2 => exact (Kd.R_reads' HO326.out).2.1); rintro e w35 ⟨v328, rfl, ho0, hb⟩; refine ⟨_, rfl, ?_⟩; have n0_ := Aside0.mk (Kd.R_below (qR HO326.out) hb); have n1_ := Aside0.mk (Kd.R_lower ho0 (below_size (qG GE322.out))); have n2_ := Aside0.mk (blk_below (g := gb322) (o := .cells #[.int .i64 a0, .int .i64 1, .int .i64 a1, .int .i64 a2, .int .i64 a3] 31 (0, 0)) (qK BK322.out) hb); have n3_ := Aside0.mk (below_step (qG GE322.out) hb); clear HO326; clear BK322; clear HB; have HO326 := n0_; have HO329 := n1_; have BK322 := n2_; have HB := n3_; clear n0_ n1_ n2_ n3_; (try clear hb); (try clear hb2); (try clear hk); (try clear hi); (try clear ho0); obtain ⟨Ao36, co36, eo36⟩ := Kd.R_slice HO329.out; subst eo36; have p331 : 0 ≤ (0 : Int) := (by omega); have q331 : 0 < (t327.length : Int) := of_decide_eq_true qA; obtain ⟨ad331, e331, hx331_0, hx331_1, hx331_2, hx331_3, hx331_4, hx331_5, hx331_6, hx331_7, hx331_8, hx331_9, hx331_10, hx331_11, hx331_12, hx331_13, hx331_14⟩ := at_T38 (Kd.R_reads' HO329.out).2.2 0 p331 q331; cases e331; have qi331 : (0 < t327.length) = True := eq_true (by omega); (try rw [show ((0 : Int)).toNat = 0 from rfl] at hx331_0); (try rw [show 0 * 15 = 0 from rfl] at hx331_0); (try rw [Addr.add_zero'] at hx331_0); (try rw [show ((0 : Int)).toNat = 0 from rfl] at hx331_1); (try rw [show 0 * 15 = 0 from rfl] at hx331_1); (try rw [Addr.add_zero'] at hx331_1); (try rw [show ((0 : Int)).toNat = 0 from rfl] at hx331_2); (try rw [show 0 * 15 = 0 from rfl] at hx331_2); (try rw [Addr.add_zero'] at hx331_2); (try rw [show ((0 : Int)).toNat = 0 from rfl] at hx331_3); (try rw [show 0 * 15 = 0 from rfl] at hx331_3); (try rw [Addr.add_zero'] at hx331_3); (try rw [show ((0 : Int)).toNat = 0 from rfl] at hx331_4); (try rw [show 0 * 15 = 0 from rfl] at hx331_4); (try rw [Addr.add_zero'] at hx331_4); (try rw [show ((0 : Int)).toNat = 0 from rfl] at hx331_5); (try rw [show 0 * 15 = 0 from rfl] at hx331_5); (try rw [Addr.add_zero'] at hx331_5); (try rw [show ((0 : Int)).toNat = 0 from rfl] at hx331_6); (try rw [show 0 * 15 = 0 from rfl] at hx331_6); (try rw [Addr.add_zero'] at hx331_6); (try rw [show ((0 : Int)).toNat = 0 from rfl] at hx331_7); (try rw [show 0 * 15 = 0 from rfl] at hx331_7); (try rw [Addr.add_zero'] at hx331_7); (try rw [show ((0 : Int)).toNat = 0 from rfl] at hx331_8); (try rw [show 0 * 15 = 0 from rfl] at hx331_8); (try rw [Addr.add_zero'] at hx331_8); (try rw [show ((0 : Int)).toNat = 0 from rfl] at hx331_9); (try rw [show 0 * 15 = 0 from rfl] at hx331_9); (try rw [Addr.add_zero'] at hx331_9); (try rw [show ((0 : Int)).toNat = 0 from rfl] at hx331_10); (try rw [show 0 * 15 = 0 from rfl] at hx331_10); (try rw [Addr.add_zero'] at hx331_10); (try rw [show ((0 : Int)).toNat = 0 from rfl] at hx331_11); (try rw [show 0 * 15 = 0 from rfl] at hx331_11); (try rw [Addr.add_zero'] at hx331_11); (try rw [show ((0 : Int)).toNat = 0 from rfl] at hx331_12); (try rw [show 0 * 15 = 0 from rfl] at hx331_12); (try rw [Addr.add_zero'] at hx331_12); (try rw [show ((0 : Int)).toNat = 0 from rfl] at hx331_13); (try rw [show 0 * 15 = 0 from rfl] at hx331_13); (try rw [Addr.add_zero'] at hx331_13); (try rw [show ((0 : Int)).toNat = 0 from rfl] at hx331_14); (try rw [show 0 * 15 = 0 from rfl] at hx331_14); (try rw [Addr.add_zero'] at hx331_14); replace p331 := eq_true p331; replace q331 := eq_true q331; have p332 : 0 ≤ (0 : Int) := (by omega); have q332 : 0 < (t327.length : Int) := of_decide_eq_true qA; obtain ⟨ad332, e332, hx332_0, hx332_1, hx332_2, hx332_3, hx332_4, hx332_5, hx332_6, hx332_7, hx332_8, hx332_9, hx332_10, hx332_11, hx332_12, hx332_13, hx332_14⟩ := at_T38 (Kd.R_reads' HO329.out).2.2 0 p332 q332; obtain rfl : ad331 = ad332 := (by injection e332); have qi332 : (0 < t327.length) = True := eq_true (by omega); (try rw [show ((0 : Int)).toNat = 0 from rfl] at hx332_0); (try rw [show 0 * 15 = 0 from rfl] at hx332_0); (try rw [Addr.add_zero'] at hx332_0); (try rw [show ((0 : Int)).toNat = 0 from rfl] at hx332_1); (try rw [show 0 * 15 = 0 from rfl] at hx332_1); (try rw [Addr.add_zero'] at hx332_1); (try rw [show ((0 : Int)).toNat = 0 from rfl] at hx332_2); (try rw [show 0 * 15 = 0 from rfl] at hx332_2); (try rw [Addr.add_zero'] at hx332_2); (try rw [show ((0 : Int)).toNat = 0 from rfl] at hx332_3); (try rw [show 0 * 15 = 0 from rfl] at hx332_3); (try rw [Addr.add_zero'] at hx332_3); (try rw [show ((0 : Int)).toNat = 0 from rfl] at hx332_4); (try rw [show 0 * 15 = 0 from rfl] at hx332_4); (try rw [Addr.add_zero'] at hx332_4); (try rw [show ((0 : Int)).toNat = 0 from rfl] at hx332_5); (try rw [show 0 * 15 = 0 from rfl] at hx332_5); (try rw [Addr.add_zero'] at hx332_5); (try rw [show ((0 : Int)).toNat = 0 from rfl] at hx332_6); (try rw [show 0 * 15 = 0 from rfl] at hx332_6); (try rw [Addr.add_zero'] at hx332_6); (try rw [show ((0 : Int)).toNat = 0 from rfl] at hx332_7); (try rw [show 0 * 15 = 0 from rfl] at hx332_7); (try rw [Addr.add_zero'] at hx332_7); (try rw [show ((0 : Int)).toNat = 0 from rfl] at hx332_8); (try rw [show 0 * 15 = 0 from rfl] at hx332_8); (try rw [Addr.add_zero'] at hx332_8); (try rw [show ((0 : Int)).toNat = 0 from rfl] at hx332_9); (try rw [show 0 * 15 = 0 from rfl] at hx332_9); (try rw [Addr.add_zero'] at hx332_9); (try rw [show ((0 : Int)).toNat = 0 from rfl] at hx332_10); (try rw [show 0 * 15 = 0 from rfl] at hx332_10); (try rw [Addr.add_zero'] at hx332_10); (try rw [show ((0 : Int)).toNat = 0 from rfl] at hx332_11); (try rw [show 0 * 15 = 0 from rfl] at hx332_11); (try rw [Addr.add_zero'] at hx332_11); (try rw [show ((0 : Int)).toNat = 0 from rfl] at hx332_12); (try rw [show 0 * 15 = 0 from rfl] at hx332_12); (try rw [Addr.add_zero'] at hx332_12); (try rw [show ((0 : Int)).toNat = 0 from rfl] at hx332_13); (try rw [show 0 * 15 = 0 from rfl] at hx332_13); (try rw [Addr.add_zero'] at hx332_13); (try rw [show ((0 : Int)).toNat = 0 from rfl] at hx332_14); (try rw [show 0 * 15 = 0 from rfl] at hx332_14); (try rw [Addr.add_zero'] at hx332_14); replace p332 := eq_true p332; replace q332 := eq_true q332; have p333 : 0 ≤ (1 : Int) := (by omega); have q333 : 1 < (t327.length : Int) := of_decide_eq_true qA; obtain ⟨ad333, e333, hx333_0, hx333_1, hx333_2, hx333_3, hx333_4, hx333_5, hx333_6, hx333_7, hx333_8, hx333_9, hx333_10, hx333_11, hx333_12, hx333_13, hx333_14⟩ := at_T38 (Kd.R_reads' HO329.out).2.2 1 p333 q333; obtain rfl : ad331 = ad333 := (by injection e333); (try simp only [show (1 : Int).toNat = 1 from rfl, Nat.reduceMul, Nat.reduceEqDiff, Go.Addr.add, ↓reduceIte] at hx333_0); (try simp only [show (1 : Int).toNat = 1 from rfl, Nat.reduceMul, Nat.reduceEqDiff, Go.Addr.add, ↓reduceIte] at hx333_1); (try simp only [show (1 : Int).toNat = 1 from rfl, Nat.reduceMul, Nat.reduceEqDiff, Go.Addr.add, ↓reduceIte] at hx333_2); (try simp only [show (1 : Int).toNat = 1 from rfl, Nat.reduceMul, Nat.reduceEqDiff, Go.Addr.add, ↓reduceIte] at hx333_3); (try simp only [show (1 : Int).toNat = 1 from rfl, Nat.reduceMul, Nat.reduceEqDiff, Go.Addr.add, ↓reduceIte] at hx333_4); (try simp only [show (1 : Int).toNat = 1 from rfl, Nat.reduceMul, Nat.reduceEqDiff, Go.Addr.add, ↓reduceIte] at hx333_5); (try simp only [show (1 : Int).toNat = 1 from rfl, Nat.reduceMul, Nat.reduceEqDiff, Go.Addr.add, ↓reduceIte] at hx333_6); (try simp only [show (1 : Int).toNat = 1 from rfl, Nat.reduceMul, Nat.reduceEqDiff, Go.Addr.add, ↓reduceIte] at hx333_7); (try simp only [show (1 : Int).toNat = 1 from rfl, Nat.reduceMul, Nat.reduceEqDiff, Go.Addr.add, ↓reduceIte] at hx333_8); (try simp only [show (1 : Int).toNat = 1 from rfl, Nat.reduceMul, Nat.reduceEqDiff, Go.Addr.add, ↓reduceIte] at hx333_9); (try simp only [show (1 : Int).toNat = 1 from rfl, Nat.reduceMul, Nat.reduceEqDiff, Go.Addr.add, ↓reduceIte] at hx333_10); (try simp only [show (1 : Int).toNat = 1 from rfl, Nat.reduceMul, Nat.reduceEqDiff, Go.Addr.add, ↓reduceIte] at hx333_11); (try simp only [show (1 : Int).toNat = 1 from rfl, Nat.reduceMul, Nat.reduceEqDiff, Go.Addr.add, ↓reduceIte] at hx333_12); (try simp only [show (1 : Int).toNat = 1 from rfl, Nat.reduceMul, Nat.reduceEqDiff, Go.Addr.add, ↓reduceIte] at hx333_13); (try simp only [show (1 : Int).toNat = 1 from rfl, Nat.reduceMul, Nat.reduceEqDiff, Go.Addr.add, ↓reduceIte] at hx333_14); have qi333 : (1 < t327.length) = True := eq_true (by omega); (try rw [show ((1 : Int)).toNat = 1 from rfl] at hx333_0); (try rw [show 1 * 15 = 15 from rfl] at hx333_0); (try rw [show ((1 : Int)).toNat = 1 from rfl] at hx333_1); (try rw [show 1 * 15 = 15 from rfl] at hx333_1); (try rw [show ((1 : Int)).toNat = 1 from rfl] at hx333_2); (try rw [show 1 * 15 = 15 from rfl] at hx333_2); (try rw [show ((1 : Int)).toNat = 1 from rfl] at hx333_3); (try rw [show 1 * 15 = 15 from rfl] at hx333_3); (try rw [show ((1 : Int)).toNat = 1 from rfl] at hx333_4); (try rw [show 1 * 15 = 15 from rfl] at hx333_4); (try rw [show ((1 : Int)).toNat = 1 from rfl] at hx333_5); (try rw [show 1 * 15 = 15 from rfl] at hx333_5); (try rw [show ((1 : Int)).toNat = 1 from rfl] at hx333_6); (try rw [show 1 * 15 = 15 from rfl] at hx333_6); (try rw [show ((1 : Int)).toNat = 1 from rfl] at hx333_7); (try rw [show 1 * 15 = 15 from rfl] at hx333_7); (try rw [show ((1 : Int)).toNat = 1 from rfl] at hx333_8); (try rw [show 1 * 15 = 15 from rfl] at hx333_8); (try rw [show ((1 : Int)).toNat = 1 from rfl] at hx333_9); (try rw [show 1 * 15 = 15 from rfl] at hx333_9); (try rw [show ((1 : Int)).toNat = 1 from rfl] at hx333_10); (try rw [show 1 * 15 = 15 from rfl] at hx333_10); (try rw [show ((1 : Int)).toNat = 1 from rfl] at hx333_11); (try rw [show 1 * 15 = 15 from rfl] at hx333_11); (try rw [show ((1 : Int)).toNat = 1 from rfl] at hx333_12); (try rw [show 1 * 15 = 15 from rfl] at hx333_12); (try rw [show ((1 : Int)).toNat = 1 from rfl] at hx333_13); (try rw [show 1 * 15 = 15 from rfl] at hx333_13); (try rw [show ((1 : Int)).toNat = 1 from rfl] at hx333_14); (try rw [show 1 * 15 = 15 from rfl] at hx333_14); replace p333 := eq_true p333; replace q333 := eq_true q333))
                      go_ret
                      exact ⟨by first | rfl | (simp [errW_none, errW_some] <;> rfl) | (simp [*, errW_none, errW_some] <;> rfl), by repeat (first | (with_reducible first | exact HB.out | apply below_alloc | apply pw_below_drewN | apply below_drew1 | refine below_set ?_ GE322.out) | exact HB.out)⟩
                    · rw [if_neg c30] at H
                      exact absurd H (by simp)
                  · rw [if_neg c29] at H
                    have c29b0 : (((rd_T38 t327 0).f3) == (wrap64 ((wrap64 (1 + a1)) + (Int.tmod (wrap64 (a4 - a3)) a2)))) = false := beq_eq_false_iff_ne.mpr c29
                    have c29b1 : (((rd_T38 t327 0).f3) != (wrap64 ((wrap64 (1 + a1)) + (Int.tmod (wrap64 (a4 - a3)) a2)))) = true := bne_iff_ne.mpr c29
                    exact absurd (Option.some.inj H) (by rw [HRT.out]; decide)
                · rw [if_neg c28] at H
                  have c28b0 : (((rd_T38 t327 0).f0) == (IntKind.u64.wrap (a5 + (IntKind.u64.wrap (wrap64 (a0 * (wrap64 (Int.tdiv (wrap64 (a4 - a3)) a2)))))))) = false := beq_eq_false_iff_ne.mpr c28
                  have c28b1 : (((rd_T38 t327 0).f0) != (IntKind.u64.wrap (a5 + (IntKind.u64.wrap (wrap64 (a0 * (wrap64 (Int.tdiv (wrap64 (a4 - a3)) a2)))))))) = true := bne_iff_ne.mpr c28
                  exact absurd (Option.some.inj H) (by rw [HRT.out]; decide)
              · rw [if_neg c27] at H
                exact absurd H (by simp)
            · replace c26 := Bool.eq_false_iff.mpr c26
              subst c26
              have H1 : (some false) = some r := by rw [if_neg (show ¬ (false = true) by decide)] at H; exact H
              clear H
              have H := H1
              clear H1
              exact absurd (Option.some.inj H) (by rw [HRT.out]; decide)

/-- THE ONE PURE STATEMENT of laws_FnLineSpecial: yours. -/
def laws_FnLineSpecial.Pure : Prop := ∀ (a0 : Int) (a1 : Int) (a2 : Int) (a3 : Int) (a4 : Int) (a5 : Int), (Lit.int .i64 a0).wf = true → (Lit.int .i64 a1).wf = true → (Lit.int .i64 a2).wf = true → (Lit.int .i64 a3).wf = true → (Lit.int .i64 a4).wf = true → (Lit.int .u64 a5).wf = true → ∃ k, laws_FnLineSpecial.f k a0 a1 a2 a3 a4 a5 = some true
theorem laws_FnLineSpecial.walk (P : laws_FnLineSpecial.Pure) (a0 : Int) (a1 : Int) (a2 : Int) (a3 : Int) (a4 : Int) (a5 : Int) (w : World) (w0 : (Lit.int .i64 a0).wf = true) (w1 : (Lit.int .i64 a1).wf = true) (w2 : (Lit.int .i64 a2).wf = true) (w3 : (Lit.int .i64 a3).wf = true) (w4 : (Lit.int .i64 a4).wf = true) (w5 : (Lit.int .u64 a5).wf = true) (hG : Glob w) :
    Calls Tryd.prog 11 #[.int .i64 a0, .int .i64 a1, .int .i64 a2, .int .i64 a3, .int .i64 a4, .int .u64 a5] w fun e w' => e = .returned (.bool true) ∧ Below w.heap.size w w' := by
  obtain ⟨k, h⟩ := P a0 a1 a2 a3 a4 a5 w0 w1 w2 w3 w4 w5
  refine (laws_FnLineSpecial.calls k a0 a1 a2 a3 a4 a5 true w h hG rfl).mono ?_
  rintro e w' ⟨rfl, hd⟩
  exact ⟨rfl, hd⟩
end Go.Proofs.YtnooghnbohjmlaaDoor.PPl
