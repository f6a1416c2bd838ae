-- Printed by a program of this session (mkprint.py over the kit's print.py)
import Derived.Test.YtnooghnbohjmlaaDoorWTab
import Derived.Test.YtnooghnbohjmlaaDoorMa
import Derived.Test.YtnooghnbohjmlaaDoorMc
import Derived.Test.YtnooghnbohjmlaaDoorPLlawsnumbersright
namespace Go.Proofs.YtnooghnbohjmlaaDoor.PPl
open Go.RowKit Go.Proofs.YtnooghnbohjmlaaDoorW.PrintWords Go.Proofs.YtnooghnbohjmlaaDoorW.PrintLast Go.Proofs.YtnooghnbohjmlaaDoorW.PrintMore
attribute [local go_sem] max2_int max_two   -- for this text's walks alone
set_option linter.unusedVariables false
set_option linter.unusedSimpArgs false

/-! ### laws_FnLineFixed: function 4 -/
def laws_FnLineFixed.j0 : Nat → Int → Int → Int → Int → Bool → Int → Int → Int → Int → Int → Option (Bool)
  | 0, _, _, _, _, _, _, _, _, _, _ => none
  | k + 1, x0, x1, x2, x3, x37, x231000, x231001, x231002, x231003, x231004 => if x37 = true then (some true) else ((some (([2] : List Int) : List Int)).bind fun y232 => ((spec_Unsigned.f k (IntKind.u64.wrap (x1)) 0).bind fun t235 => (if y232.length + t235.length < 140737488355328 then ((some (y232 ++ t235 : List Int)).bind fun y238 => ((some (([9] : List Int) : List Int)).bind fun y241 => (if y238.length + y241.length < 140737488355328 then ((some (y238 ++ y241 : List Int)).bind fun y244 => ((spec_Fixed.f k (IntKind.u64.wrap (x2)) 2 false).bind fun t247 => (if y244.length + t247.length < 140737488355328 then ((some (y244 ++ t247 : List Int)).bind fun y250 => ((some (([1] : List Int) : List Int)).bind fun y253 => (if y250.length + y253.length < 140737488355328 then ((laws_rowsOf.f k x231000 x231001 x231002 x231003 x231004 x3 (y250 ++ y253) 2).bind fun bt259 => (if bt259.2 = true then (if 0 < (bt259.1.length : Int) then (if ((rd_T38 bt259.1 0).f1) = 0 then (some (((rd_T38 bt259.1 0).f0) == (IntKind.u64.wrap (x3 + (IntKind.u64.wrap (wrap64 ((wrap64 (x0 * x1)) + x2))))))) else (some false)) else (none)) else (some false))) else (none)))) else (none)))) else (none)))) else (none))))
def laws_FnLineFixed.f (k : Nat) (a0 : Int) (a1 : Int) (a2 : Int) (a3 : Int) : Option (Bool) := (laws_numbers_right.f a0 1 0 1 13).bind fun t231 => (if t231 = true then (if a1 < 0 then (laws_FnLineFixed.j0 k a0 a1 a2 a3 true a0 1 0 1 13) else (if a1 > 2147483648 then (laws_FnLineFixed.j0 k a0 a1 a2 a3 true a0 1 0 1 13) else (if a2 < 0 then (laws_FnLineFixed.j0 k a0 a1 a2 a3 true a0 1 0 1 13) else (if a2 > 65535 then (laws_FnLineFixed.j0 k a0 a1 a2 a3 true a0 1 0 1 13) else (laws_FnLineFixed.j0 k a0 a1 a2 a3 (decide (a3 > 4611686018427387904)) a0 1 0 1 13))))) else (laws_FnLineFixed.j0 k a0 a1 a2 a3 true a0 1 0 1 13))
theorem laws_FnLineFixed.mono_l : ∀ k, (∀ y0 y1 y2 y3 y4 y5 y6 y7 y8 y9, LeO (laws_FnLineFixed.j0 k y0 y1 y2 y3 y4 y5 y6 y7 y8 y9) (laws_FnLineFixed.j0 (k + 1) y0 y1 y2 y3 y4 y5 y6 y7 y8 y9))
  | 0 => fun _ _ _ _ _ _ _ _ _ _ r h => by simp [laws_FnLineFixed.j0] at h
  | k + 1 => by
    have ih0 := laws_FnLineFixed.mono_l k
    · intro y0 y1 y2 y3 y4 y5 y6 y7 y8 y9
      unfold laws_FnLineFixed.j0
      repeat' first
      | (with_reducible exact ih0 _ _ _ _ _ _ _ _ _ _)
      | (with_reducible exact laws_rowsOf.mono _ _ _ _ _ _ _ _ _)
      | (with_reducible exact spec_Fixed.mono _ _ _ _)
      | (with_reducible exact spec_Unsigned.mono _ _ _)
      | (with_reducible exact LeO.refl _)
      | (with_reducible exact LeO.none _)
      | (with_reducible refine LeO.ite ?_ ?_)
      | (with_reducible refine LeO.bind ?_ (fun _ => ?_))
      | exact ih0 _ _ _ _ _ _ _ _ _ _
      | exact laws_rowsOf.mono _ _ _ _ _ _ _ _ _
      | exact spec_Fixed.mono _ _ _ _
      | exact spec_Unsigned.mono _ _ _
      | exact LeO.none _
      | refine LeO.ite ?_ ?_
      | refine LeO.bind ?_ (fun _ => ?_)
theorem laws_FnLineFixed.mono : ∀ a0 a1 a2 a3 k, LeO (laws_FnLineFixed.f k a0 a1 a2 a3) (laws_FnLineFixed.f (k + 1) a0 a1 a2 a3) := by
  intro a0 a1 a2 a3 k
  have ih0 := laws_FnLineFixed.mono_l k
  unfold laws_FnLineFixed.f
  repeat' first
      | (with_reducible exact ih0 _ _ _ _ _ _ _ _ _ _)
      | (with_reducible exact laws_rowsOf.mono _ _ _ _ _ _ _ _ _)
      | (with_reducible exact spec_Fixed.mono _ _ _ _)
      | (with_reducible exact spec_Unsigned.mono _ _ _)
      | (with_reducible exact LeO.refl _)
      | (with_reducible exact LeO.none _)
      | (with_reducible refine LeO.ite ?_ ?_)
      | (with_reducible refine LeO.bind ?_ (fun _ => ?_))
      | exact ih0 _ _ _ _ _ _ _ _ _ _
      | exact laws_rowsOf.mono _ _ _ _ _ _ _ _ _
      | exact spec_Fixed.mono _ _ _ _
      | exact spec_Unsigned.mono _ _ _
      | exact LeO.none _
      | refine LeO.ite ?_ ?_
      | refine LeO.bind ?_ (fun _ => ?_)
def laws_FnLineFixed.T5 : Bool × List (List Nat × List Nat) := (true, [([], []), ([], []), ([], []), ([], []), ([3], [3]), ([4], [4]), ([2, 5, 5], [2, 5]), ([], []), ([6, 7, 6], [6, 7]), ([0, 1, 8, 8], [0, 1, 8]), ([9], [9]), ([10], [10]), ([10], [10]), ([11, 9, 0, 1, 2, 3, 4, 5, 6, 7, 8, 9, 10, 11], [11]), ([12, 13, 0, 1, 2, 3, 4, 5, 6, 7, 8, 9, 10, 11, 12, 13], [12])])
def laws_FnLineFixed.B5 : List Nat := [0, 0, 0, 0, 8, 24, 60, 0, 252, 511, 1023, 2047, 2047, 4095, 16383]
theorem laws_FnLineFixed.tab5 : rtab .any (opsOf Tryd.f4 5) = laws_FnLineFixed.T5 := by kernel_rfl
theorem laws_FnLineFixed.bits5 : waitsOk laws_FnLineFixed.T5.2 laws_FnLineFixed.B5 = true := by kernel_rfl
set_option maxHeartbeats 8000000 in
set_option maxRecDepth 100000 in
theorem laws_FnLineFixed.calls (k : Nat) (a0 : Int) (a1 : Int) (a2 : Int) (a3 : Int) (r : Bool) (w : World) (h : laws_FnLineFixed.f k a0 a1 a2 a3 = some r) (hG : Glob w) (hrt : r = true) :
    Calls Tryd.prog 4 #[.int .i64 a0, .int .i64 a1, .int .i64 a2, .int .u64 a3] w fun e w' => e = .returned (.bool r) ∧ Below w.heap.size w w' := by
  have HGL := Aside0.mk hG
  clear hG
  have HRT := Aside0.mk hrt
  clear hrt
  have hu31 := Tryd.underlying31
  have HB := Aside0.mk (Below.refl w.heap.size w)
  have H : ((laws_numbers_right.f a0 1 0 1 13).bind fun t231 => (if t231 = true then (if a1 < 0 then (laws_FnLineFixed.j0 k a0 a1 a2 a3 true a0 1 0 1 13) else (if a1 > 2147483648 then (laws_FnLineFixed.j0 k a0 a1 a2 a3 true a0 1 0 1 13) else (if a2 < 0 then (laws_FnLineFixed.j0 k a0 a1 a2 a3 true a0 1 0 1 13) else (if a2 > 65535 then (laws_FnLineFixed.j0 k a0 a1 a2 a3 true a0 1 0 1 13) else (laws_FnLineFixed.j0 k a0 a1 a2 a3 (decide (a3 > 4611686018427387904)) a0 1 0 1 13))))) else (laws_FnLineFixed.j0 k a0 a1 a2 a3 true a0 1 0 1 13))) = some r := h
  clear h
  have HC5 := Aside0.mk H
  clear H
  go_enter Tryd.func4, Tryd.ntmps4
  go_upto_region 2 with (first | ((with_reducible refine gate_dst (N := 9) rfl ?_); refine box_event ?hg (N := 9) ?hd (cs := #[.int .i64 0, .int .i64 0, .int .i64 0, .int .i64 0, .int .i64 0]) (t := 31) ?hr ?_; (case hd => rfl); (case hg => rfl); (case hr => first | (go_simp; done) | (go_simp; rfl)); intro gb230 hg w6 hbox hb; have n0_ := Aside0.mk (below_step qB hb); have n1_ := Aside0.mk (hbox); have n2_ := Aside0.mk ((by rw [hg]; exact (below_size qB) : w.heap.size ≤ gb230)); have n3_ := Aside0.mk ((by rw [hg]; exact (below_size qB) : w.heap.size ≤ gb230)); clear HB; have HB := n0_; have BK230 := n1_; have GW230 := n2_; have GE230 := n3_; clear n0_ n1_ n2_ n3_; clear hb hbox hg; have hcz7_0 : w6.cell? ⟨gb230, 0, none⟩ = some (.int .i64 0) := (blk_cell BK230.out 0).trans rfl; have hcz7_1 : w6.cell? ⟨gb230, 1, none⟩ = some (.int .i64 0) := (blk_cell BK230.out 1).trans rfl; have hcz7_2 : w6.cell? ⟨gb230, 2, none⟩ = some (.int .i64 0) := (blk_cell BK230.out 2).trans rfl; have hcz7_3 : w6.cell? ⟨gb230, 3, none⟩ = some (.int .i64 0) := (blk_cell BK230.out 3).trans rfl; have hcz7_4 : w6.cell? ⟨gb230, 4, none⟩ = some (.int .i64 0) := (blk_cell BK230.out 4).trans rfl; have hfz7_0 := blk_frozen BK230.out 0; have hfz7_1 := blk_frozen BK230.out 1; have hfz7_2 := blk_frozen BK230.out 2; have hfz7_3 := blk_frozen BK230.out 3; have hfz7_4 := blk_frozen BK230.out 4))
  (try simp only [Act.put, List.setIfInBounds_toArray, List.set_cons_zero, List.set_cons_succ])
  go_cut [37] (fun v37 wc => ∃ (kq : Nat) (x37_4 : Bool), v37 = .bool x37_4 ∧ Aside0 (laws_FnLineFixed.j0 kq a0 a1 a2 a3 x37_4 a0 1 0 1 13 = some r) ∧ Aside0 (kq ≤ k) ∧ Aside0 (wc.heap[gb230]? = some (.cells #[.int .i64 a0, .int .i64 1, .int .i64 0, .int .i64 1, .int .i64 13] 31 (0, 0))) ∧ Aside0 (Below w.heap.size w wc))
  case first =>
    have H := HC5.out
    clear HC5
    replace H := Option.bind_eq_some_iff.mp H
    obtain ⟨t231, A80, H⟩ := H
    replace H : (if t231 = true then (if a1 < 0 then (laws_FnLineFixed.j0 k a0 a1 a2 a3 true a0 1 0 1 13) else (if a1 > 2147483648 then (laws_FnLineFixed.j0 k a0 a1 a2 a3 true a0 1 0 1 13) else (if a2 < 0 then (laws_FnLineFixed.j0 k a0 a1 a2 a3 true a0 1 0 1 13) else (if a2 > 65535 then (laws_FnLineFixed.j0 k a0 a1 a2 a3 true a0 1 0 1 13) else (laws_FnLineFixed.j0 k a0 a1 a2 a3 (decide (a3 > 4611686018427387904)) a0 1 0 1 13))))) else (laws_FnLineFixed.j0 k a0 a1 a2 a3 true a0 1 0 1 13)) = some r := H
    have A8 := Aside0.mk A80
    clear A80
    by_cases c9 : t231 = true
    · subst c9
      have H1 : (if a1 < 0 then (laws_FnLineFixed.j0 k a0 a1 a2 a3 true a0 1 0 1 13) else (if a1 > 2147483648 then (laws_FnLineFixed.j0 k a0 a1 a2 a3 true a0 1 0 1 13) else (if a2 < 0 then (laws_FnLineFixed.j0 k a0 a1 a2 a3 true a0 1 0 1 13) else (if a2 > 65535 then (laws_FnLineFixed.j0 k a0 a1 a2 a3 true a0 1 0 1 13) else (laws_FnLineFixed.j0 k a0 a1 a2 a3 (decide (a3 > 4611686018427387904)) a0 1 0 1 13))))) = some r := by rw [if_pos rfl] at H; exact H
      clear H
      have H := H1
      clear H1
      by_cases c10 : a1 < 0
      · rw [if_pos c10] at H
        have c10b0 : decide (a1 < 0) = true := decide_eq_true c10
        clear c10
        (first | rw [c10b0] | (simp only [i64_w, i32_w]; rw [c10b0]) | skip)
        have H' := Aside0.mk H
        clear H
        have hcz11_0 : w6.cell? ⟨gb230, 0, none⟩ = some (.int .i64 0) := (blk_cell BK230.out 0).trans rfl
        have hcz11_1 : w6.cell? ⟨gb230, 1, none⟩ = some (.int .i64 0) := (blk_cell BK230.out 1).trans rfl
        have hcz11_2 : w6.cell? ⟨gb230, 2, none⟩ = some (.int .i64 0) := (blk_cell BK230.out 2).trans rfl
        have hcz11_3 : w6.cell? ⟨gb230, 3, none⟩ = some (.int .i64 0) := (blk_cell BK230.out 3).trans rfl
        have hcz11_4 : w6.cell? ⟨gb230, 4, none⟩ = some (.int .i64 0) := (blk_cell BK230.out 4).trans rfl
        have hfz11_0 := blk_frozen BK230.out 0
        have hfz11_1 := blk_frozen BK230.out 1
        have hfz11_2 := blk_frozen BK230.out 2
        have hfz11_3 := blk_frozen BK230.out 3
        have hfz11_4 := blk_frozen BK230.out 4
        go_wp2_with (first | ((with_reducible refine gate_callee (f := 18) rfl ?_); refine goesL_ (some 16) rfl rfl Tryd.func18 (by kernel_rfl) rfl #[.agg #[.int .i64 a0, .int .i64 1, .int .i64 0, .int .i64 1, .int .i64 13]] rfl qL ?_; (with_reducible refine (laws_numbers_right.calls a0 1 0 1 13 true _ A8.out).mono ?_); rintro e w12 ⟨rfl, hb⟩; refine ⟨_, rfl, ?_⟩; have n0_ := Aside0.mk (blk_below (g := gb230) (o := .cells #[.int .i64 a0, .int .i64 1, .int .i64 0, .int .i64 1, .int .i64 13] 31 (0, 0)) (by (with_reducible repeat (first | refine blk_drewN ?_ _ | refine blk_drew ?_ | refine blk_alloc ?_ _)); refine blk_put (cs := #[.int .i64 a0, .int .i64 1, .int .i64 0, .int .i64 1, .int .i64 0]) ?_ 4 _ rfl; (with_reducible repeat (first | refine blk_drewN ?_ _ | refine blk_drew ?_ | refine blk_alloc ?_ _)); refine blk_put (cs := #[.int .i64 a0, .int .i64 1, .int .i64 0, .int .i64 0, .int .i64 0]) ?_ 3 _ rfl; (with_reducible repeat (first | refine blk_drewN ?_ _ | refine blk_drew ?_ | refine blk_alloc ?_ _)); refine blk_put (cs := #[.int .i64 a0, .int .i64 1, .int .i64 0, .int .i64 0, .int .i64 0]) ?_ 2 _ rfl; (with_reducible repeat (first | refine blk_drewN ?_ _ | refine blk_drew ?_ | refine blk_alloc ?_ _)); refine blk_put (cs := #[.int .i64 a0, .int .i64 0, .int .i64 0, .int .i64 0, .int .i64 0]) ?_ 1 _ rfl; (with_reducible repeat (first | refine blk_drewN ?_ _ | refine blk_drew ?_ | refine blk_alloc ?_ _)); refine blk_put (cs := #[.int .i64 0, .int .i64 0, .int .i64 0, .int .i64 0, .int .i64 0]) ?_ 0 _ rfl; (with_reducible repeat (first | refine blk_drewN ?_ _ | refine blk_drew ?_ | refine blk_alloc ?_ _)); exact BK230.out) hb); have n1_ := Aside0.mk (below_step (qG GE230.out) hb); clear BK230; clear HB; have BK230 := n0_; have HB := n1_; clear n0_ n1_; (try clear hb); (try clear hb2); (try clear hk); (try clear hi)))
        go_meet
        case rel => exact ⟨_, (true), (by first | rfl | (simp; done) | (simp [*]; done)), H', ⟨by first | omega | exact Nat.le_refl _⟩, ⟨by (with_reducible repeat (first | refine blk_drewN ?_ _ | refine blk_drew ?_ | refine blk_alloc ?_ _)); exact BK230.out⟩, ⟨by repeat (first | (with_reducible first | exact HB.out | apply below_alloc | apply pw_below_drewN | apply below_drew1 | refine below_set ?_ GE230.out) | exact HB.out)⟩⟩
      · rw [if_neg c10] at H
        have c10b0 : decide (a1 < 0) = false := decide_eq_false c10
        clear c10
        (first | rw [c10b0] | (simp only [i64_w, i32_w]; rw [c10b0]) | skip)
        by_cases c13 : a1 > 2147483648
        · rw [if_pos c13] at H
          have c13b0 : decide (2147483648 < a1) = true := decide_eq_true c13
          clear c13
          have H' := Aside0.mk H
          clear H
          have hcz14_0 : w6.cell? ⟨gb230, 0, none⟩ = some (.int .i64 0) := (blk_cell BK230.out 0).trans rfl
          have hcz14_1 : w6.cell? ⟨gb230, 1, none⟩ = some (.int .i64 0) := (blk_cell BK230.out 1).trans rfl
          have hcz14_2 : w6.cell? ⟨gb230, 2, none⟩ = some (.int .i64 0) := (blk_cell BK230.out 2).trans rfl
          have hcz14_3 : w6.cell? ⟨gb230, 3, none⟩ = some (.int .i64 0) := (blk_cell BK230.out 3).trans rfl
          have hcz14_4 : w6.cell? ⟨gb230, 4, none⟩ = some (.int .i64 0) := (blk_cell BK230.out 4).trans rfl
          have hfz14_0 := blk_frozen BK230.out 0
          have hfz14_1 := blk_frozen BK230.out 1
          have hfz14_2 := blk_frozen BK230.out 2
          have hfz14_3 := blk_frozen BK230.out 3
          have hfz14_4 := blk_frozen BK230.out 4
          go_wp2_with (first | ((with_reducible refine gate_callee (f := 18) rfl ?_); refine goesL_ (some 16) rfl rfl Tryd.func18 (by kernel_rfl) rfl #[.agg #[.int .i64 a0, .int .i64 1, .int .i64 0, .int .i64 1, .int .i64 13]] rfl qL ?_; (with_reducible refine (laws_numbers_right.calls a0 1 0 1 13 true _ A8.out).mono ?_); rintro e w15 ⟨rfl, hb⟩; refine ⟨_, rfl, ?_⟩; have n0_ := Aside0.mk (blk_below (g := gb230) (o := .cells #[.int .i64 a0, .int .i64 1, .int .i64 0, .int .i64 1, .int .i64 13] 31 (0, 0)) (by (with_reducible repeat (first | refine blk_drewN ?_ _ | refine blk_drew ?_ | refine blk_alloc ?_ _)); refine blk_put (cs := #[.int .i64 a0, .int .i64 1, .int .i64 0, .int .i64 1, .int .i64 0]) ?_ 4 _ rfl; (with_reducible repeat (first | refine blk_drewN ?_ _ | refine blk_drew ?_ | refine blk_alloc ?_ _)); refine blk_put (cs := #[.int .i64 a0, .int .i64 1, .int .i64 0, .int .i64 0, .int .i64 0]) ?_ 3 _ rfl; (with_reducible repeat (first | refine blk_drewN ?_ _ | refine blk_drew ?_ | refine blk_alloc ?_ _)); refine blk_put (cs := #[.int .i64 a0, .int .i64 1, .int .i64 0, .int .i64 0, .int .i64 0]) ?_ 2 _ rfl; (with_reducible repeat (first | refine blk_drewN ?_ _ | refine blk_drew ?_ | refine blk_alloc ?_ _)); refine blk_put (cs := #[.int .i64 a0, .int .i64 0, .int .i64 0, .int .i64 0, .int .i64 0]) ?_ 1 _ rfl; (with_reducible repeat (first | refine blk_drewN ?_ _ | refine blk_drew ?_ | refine blk_alloc ?_ _)); refine blk_put (cs := #[.int .i64 0, .int .i64 0, .int .i64 0, .int .i64 0, .int .i64 0]) ?_ 0 _ rfl; (with_reducible repeat (first | refine blk_drewN ?_ _ | refine blk_drew ?_ | refine blk_alloc ?_ _)); exact BK230.out) hb); have n1_ := Aside0.mk (below_step (qG GE230.out) hb); clear BK230; clear HB; have BK230 := n0_; have HB := n1_; clear n0_ n1_; (try clear hb); (try clear hb2); (try clear hk); (try clear hi)))
          go_meet
          case rel => exact ⟨_, (true), (by first | rfl | (simp; done) | (simp [*]; done)), H', ⟨by first | omega | exact Nat.le_refl _⟩, ⟨by (with_reducible repeat (first | refine blk_drewN ?_ _ | refine blk_drew ?_ | refine blk_alloc ?_ _)); exact BK230.out⟩, ⟨by repeat (first | (with_reducible first | exact HB.out | apply below_alloc | apply pw_below_drewN | apply below_drew1 | refine below_set ?_ GE230.out) | exact HB.out)⟩⟩
        · rw [if_neg c13] at H
          have c13b0 : decide (2147483648 < a1) = false := decide_eq_false c13
          clear c13
          by_cases c16 : a2 < 0
          · rw [if_pos c16] at H
            have c16b0 : decide (a2 < 0) = true := decide_eq_true c16
            clear c16
            have H' := Aside0.mk H
            clear H
            have hcz17_0 : w6.cell? ⟨gb230, 0, none⟩ = some (.int .i64 0) := (blk_cell BK230.out 0).trans rfl
            have hcz17_1 : w6.cell? ⟨gb230, 1, none⟩ = some (.int .i64 0) := (blk_cell BK230.out 1).trans rfl
            have hcz17_2 : w6.cell? ⟨gb230, 2, none⟩ = some (.int .i64 0) := (blk_cell BK230.out 2).trans rfl
            have hcz17_3 : w6.cell? ⟨gb230, 3, none⟩ = some (.int .i64 0) := (blk_cell BK230.out 3).trans rfl
            have hcz17_4 : w6.cell? ⟨gb230, 4, none⟩ = some (.int .i64 0) := (blk_cell BK230.out 4).trans rfl
            have hfz17_0 := blk_frozen BK230.out 0
            have hfz17_1 := blk_frozen BK230.out 1
            have hfz17_2 := blk_frozen BK230.out 2
            have hfz17_3 := blk_frozen BK230.out 3
            have hfz17_4 := blk_frozen BK230.out 4
            go_wp2_with (first | ((with_reducible refine gate_callee (f := 18) rfl ?_); refine goesL_ (some 16) rfl rfl Tryd.func18 (by kernel_rfl) rfl #[.agg #[.int .i64 a0, .int .i64 1, .int .i64 0, .int .i64 1, .int .i64 13]] rfl qL ?_; (with_reducible refine (laws_numbers_right.calls a0 1 0 1 13 true _ A8.out).mono ?_); rintro e w18 ⟨rfl, hb⟩; refine ⟨_, rfl, ?_⟩; have n0_ := Aside0.mk (blk_below (g := gb230) (o := .cells #[.int .i64 a0, .int .i64 1, .int .i64 0, .int .i64 1, .int .i64 13] 31 (0, 0)) (by (with_reducible repeat (first | refine blk_drewN ?_ _ | refine blk_drew ?_ | refine blk_alloc ?_ _)); refine blk_put (cs := #[.int .i64 a0, .int .i64 1, .int .i64 0, .int .i64 1, .int .i64 0]) ?_ 4 _ rfl; (with_reducible repeat (first | refine blk_drewN ?_ _ | refine blk_drew ?_ | refine blk_alloc ?_ _)); refine blk_put (cs := #[.int .i64 a0, .int .i64 1, .int .i64 0, .int .i64 0, .int .i64 0]) ?_ 3 _ rfl; (with_reducible repeat (first | refine blk_drewN ?_ _ | refine blk_drew ?_ | refine blk_alloc ?_ _)); refine blk_put (cs := #[.int .i64 a0, .int .i64 1, .int .i64 0, .int .i64 0, .int .i64 0]) ?_ 2 _ rfl; (with_reducible repeat (first | refine blk_drewN ?_ _ | refine blk_drew ?_ | refine blk_alloc ?_ _)); refine blk_put (cs := #[.int .i64 a0, .int .i64 0, .int .i64 0, .int .i64 0, .int .i64 0]) ?_ 1 _ rfl; (with_reducible repeat (first | refine blk_drewN ?_ _ | refine blk_drew ?_ | refine blk_alloc ?_ _)); refine blk_put (cs := #[.int .i64 0, .int .i64 0, .int .i64 0, .int .i64 0, .int .i64 0]) ?_ 0 _ rfl; (with_reducible repeat (first | refine blk_drewN ?_ _ | refine blk_drew ?_ | refine blk_alloc ?_ _)); exact BK230.out) hb); have n1_ := Aside0.mk (below_step (qG GE230.out) hb); clear BK230; clear HB; have BK230 := n0_; have HB := n1_; clear n0_ n1_; (try clear hb); (try clear hb2); (try clear hk); (try clear hi)))
            go_meet
            case rel => exact ⟨_, (true), (by first | rfl | (simp; done) | (simp [*]; done)), H', ⟨by first | omega | exact Nat.le_refl _⟩, ⟨by (with_reducible repeat (first | refine blk_drewN ?_ _ | refine blk_drew ?_ | refine blk_alloc ?_ _)); exact BK230.out⟩, ⟨by repeat (first | (with_reducible first | exact HB.out | apply below_alloc | apply pw_below_drewN | apply below_drew1 | refine below_set ?_ GE230.out) | exact HB.out)⟩⟩
          · rw [if_neg c16] at H
            have c16b0 : decide (a2 < 0) = false := decide_eq_false c16
            clear c16
            by_cases c19 : a2 > 65535
            · rw [if_pos c19] at H
              have c19b0 : decide (65535 < a2) = true := decide_eq_true c19
              clear c19
              have H' := Aside0.mk H
              clear H
              have hcz20_0 : w6.cell? ⟨gb230, 0, none⟩ = some (.int .i64 0) := (blk_cell BK230.out 0).trans rfl
              have hcz20_1 : w6.cell? ⟨gb230, 1, none⟩ = some (.int .i64 0) := (blk_cell BK230.out 1).trans rfl
              have hcz20_2 : w6.cell? ⟨gb230, 2, none⟩ = some (.int .i64 0) := (blk_cell BK230.out 2).trans rfl
              have hcz20_3 : w6.cell? ⟨gb230, 3, none⟩ = some (.int .i64 0) := (blk_cell BK230.out 3).trans rfl
              have hcz20_4 : w6.cell? ⟨gb230, 4, none⟩ = some (.int .i64 0) := (blk_cell BK230.out 4).trans rfl
              have hfz20_0 := blk_frozen BK230.out 0
              have hfz20_1 := blk_frozen BK230.out 1
              have hfz20_2 := blk_frozen BK230.out 2
              have hfz20_3 := blk_frozen BK230.out 3
              have hfz20_4 := blk_frozen BK230.out 4
              go_wp2_with (first | ((with_reducible refine gate_callee (f := 18) rfl ?_); refine goesL_ (some 16) rfl rfl Tryd.func18 (by kernel_rfl) rfl #[.agg #[.int .i64 a0, .int .i64 1, .int .i64 0, .int .i64 1, .int .i64 13]] rfl qL ?_; (with_reducible refine (laws_numbers_right.calls a0 1 0 1 13 true _ A8.out).mono ?_); rintro e w21 ⟨rfl, hb⟩; refine ⟨_, rfl, ?_⟩; have n0_ := Aside0.mk (blk_below (g := gb230) (o := .cells #[.int .i64 a0, .int .i64 1, .int .i64 0, .int .i64 1, .int .i64 13] 31 (0, 0)) (by (with_reducible repeat (first | refine blk_drewN ?_ _ | refine blk_drew ?_ | refine blk_alloc ?_ _)); refine blk_put (cs := #[.int .i64 a0, .int .i64 1, .int .i64 0, .int .i64 1, .int .i64 0]) ?_ 4 _ rfl; (with_reducible repeat (first | refine blk_drewN ?_ _ | refine blk_drew ?_ | refine blk_alloc ?_ _)); refine blk_put (cs := #[.int .i64 a0, .int .i64 1, .int .i64 0, .int .i64 0, .int .i64 0]) ?_ 3 _ rfl; (with_reducible repeat (first | refine blk_drewN ?_ _ | refine blk_drew ?_ | refine blk_alloc ?_ _)); refine blk_put (cs := #[.int .i64 a0, .int .i64 1, .int .i64 0, .int .i64 0, .int .i64 0]) ?_ 2 _ rfl; (with_reducible repeat (first | refine blk_drewN ?_ _ | refine blk_drew ?_ | refine blk_alloc ?_ _)); refine blk_put (cs := #[.int .i64 a0, .int .i64 0, .int .i64 0, .int .i64 0, .int .i64 0]) ?_ 1 _ rfl; (with_reducible repeat (first | refine blk_drewN ?_ _ | refine blk_drew ?_ | refine blk_alloc ?_ _)); refine blk_put (cs := #[.int .i64 0, .int .i64 0, .int .i64 0, .int .i64 0, .int .i64 0]) ?_ 0 _ rfl; (with_reducible repeat (first | refine blk_drewN ?_ _ | refine blk_drew ?_ | refine blk_alloc ?_ _)); exact BK230.out) hb); have n1_ := Aside0.mk (below_step (qG GE230.out) hb); clear BK230; clear HB; have BK230 := n0_; have HB := n1_; clear n0_ n1_; (try clear hb); (try clear hb2); (try clear hk); (try clear hi)))
              go_meet
              case rel => exact ⟨_, (true), (by first | rfl | (simp; done) | (simp [*]; done)), H', ⟨by first | omega | exact Nat.le_refl _⟩, ⟨by (with_reducible repeat (first | refine blk_drewN ?_ _ | refine blk_drew ?_ | refine blk_alloc ?_ _)); exact BK230.out⟩, ⟨by repeat (first | (with_reducible first | exact HB.out | apply below_alloc | apply pw_below_drewN | apply below_drew1 | refine below_set ?_ GE230.out) | exact HB.out)⟩⟩
            · rw [if_neg c19] at H
              have c19b0 : decide (65535 < a2) = false := decide_eq_false c19
              clear c19
              have H' := Aside0.mk H
              clear H
              have hcz22_0 : w6.cell? ⟨gb230, 0, none⟩ = some (.int .i64 0) := (blk_cell BK230.out 0).trans rfl
              have hcz22_1 : w6.cell? ⟨gb230, 1, none⟩ = some (.int .i64 0) := (blk_cell BK230.out 1).trans rfl
              have hcz22_2 : w6.cell? ⟨gb230, 2, none⟩ = some (.int .i64 0) := (blk_cell BK230.out 2).trans rfl
              have hcz22_3 : w6.cell? ⟨gb230, 3, none⟩ = some (.int .i64 0) := (blk_cell BK230.out 3).trans rfl
              have hcz22_4 : w6.cell? ⟨gb230, 4, none⟩ = some (.int .i64 0) := (blk_cell BK230.out 4).trans rfl
              have hfz22_0 := blk_frozen BK230.out 0
              have hfz22_1 := blk_frozen BK230.out 1
              have hfz22_2 := blk_frozen BK230.out 2
              have hfz22_3 := blk_frozen BK230.out 3
              have hfz22_4 := blk_frozen BK230.out 4
              go_wp2_with (first | ((with_reducible refine gate_callee (f := 18) rfl ?_); refine goesL_ (some 16) rfl rfl Tryd.func18 (by kernel_rfl) rfl #[.agg #[.int .i64 a0, .int .i64 1, .int .i64 0, .int .i64 1, .int .i64 13]] rfl qL ?_; (with_reducible refine (laws_numbers_right.calls a0 1 0 1 13 true _ A8.out).mono ?_); rintro e w23 ⟨rfl, hb⟩; refine ⟨_, rfl, ?_⟩; have n0_ := Aside0.mk (blk_below (g := gb230) (o := .cells #[.int .i64 a0, .int .i64 1, .int .i64 0, .int .i64 1, .int .i64 13] 31 (0, 0)) (by (with_reducible repeat (first | refine blk_drewN ?_ _ | refine blk_drew ?_ | refine blk_alloc ?_ _)); refine blk_put (cs := #[.int .i64 a0, .int .i64 1, .int .i64 0, .int .i64 1, .int .i64 0]) ?_ 4 _ rfl; (with_reducible repeat (first | refine blk_drewN ?_ _ | refine blk_drew ?_ | refine blk_alloc ?_ _)); refine blk_put (cs := #[.int .i64 a0, .int .i64 1, .int .i64 0, .int .i64 0, .int .i64 0]) ?_ 3 _ rfl; (with_reducible repeat (first | refine blk_drewN ?_ _ | refine blk_drew ?_ | refine blk_alloc ?_ _)); refine blk_put (cs := #[.int .i64 a0, .int .i64 1, .int .i64 0, .int .i64 0, .int .i64 0]) ?_ 2 _ rfl; (with_reducible repeat (first | refine blk_drewN ?_ _ | refine blk_drew ?_ | refine blk_alloc ?_ _)); refine blk_put (cs := #[.int .i64 a0, .int .i64 0, .int .i64 0, .int .i64 0, .int .i64 0]) ?_ 1 _ rfl; (with_reducible repeat (first | refine blk_drewN ?_ _ | refine blk_drew ?_ | refine blk_alloc ?_ _)); refine blk_put (cs := #[.int .i64 0, .int .i64 0, .int .i64 0, .int .i64 0, .int .i64 0]) ?_ 0 _ rfl; (with_reducible repeat (first | refine blk_drewN ?_ _ | refine blk_drew ?_ | refine blk_alloc ?_ _)); exact BK230.out) hb); have n1_ := Aside0.mk (below_step (qG GE230.out) hb); clear BK230; clear HB; have BK230 := n0_; have HB := n1_; clear n0_ n1_; (try clear hb); (try clear hb2); (try clear hk); (try clear hi)))
              go_meet
              case rel => exact ⟨_, (decide (a3 > 4611686018427387904)), (by first | rfl | (simp; done) | (simp [*]; done)), H', ⟨by first | omega | exact Nat.le_refl _⟩, ⟨by (with_reducible repeat (first | refine blk_drewN ?_ _ | refine blk_drew ?_ | refine blk_alloc ?_ _)); exact BK230.out⟩, ⟨by repeat (first | (with_reducible first | exact HB.out | apply below_alloc | apply pw_below_drewN | apply below_drew1 | refine below_set ?_ GE230.out) | exact HB.out)⟩⟩
    · replace c9 := Bool.eq_false_iff.mpr c9
      subst c9
      have H1 : (laws_FnLineFixed.j0 k a0 a1 a2 a3 true a0 1 0 1 13) = some r := by rw [if_neg (show ¬ (false = true) by decide)] at H; exact H
      clear H
      have H := H1
      clear H1
      have H' := Aside0.mk H
      clear H
      have hcz24_0 : w6.cell? ⟨gb230, 0, none⟩ = some (.int .i64 0) := (blk_cell BK230.out 0).trans rfl
      have hcz24_1 : w6.cell? ⟨gb230, 1, none⟩ = some (.int .i64 0) := (blk_cell BK230.out 1).trans rfl
      have hcz24_2 : w6.cell? ⟨gb230, 2, none⟩ = some (.int .i64 0) := (blk_cell BK230.out 2).trans rfl
      have hcz24_3 : w6.cell? ⟨gb230, 3, none⟩ = some (.int .i64 0) := (blk_cell BK230.out 3).trans rfl
      have hcz24_4 : w6.cell? ⟨gb230, 4, none⟩ = some (.int .i64 0) := (blk_cell BK230.out 4).trans rfl
      have hfz24_0 := blk_frozen BK230.out 0
      have hfz24_1 := blk_frozen BK230.out 1
      have hfz24_2 := blk_frozen BK230.out 2
      have hfz24_3 := blk_frozen BK230.out 3
      have hfz24_4 := blk_frozen BK230.out 4
      go_wp2_with (first | ((with_reducible refine gate_callee (f := 18) rfl ?_); refine goesL_ (some 16) rfl rfl Tryd.func18 (by kernel_rfl) rfl #[.agg #[.int .i64 a0, .int .i64 1, .int .i64 0, .int .i64 1, .int .i64 13]] rfl qL ?_; (with_reducible refine (laws_numbers_right.calls a0 1 0 1 13 false _ A8.out).mono ?_); rintro e w25 ⟨rfl, hb⟩; refine ⟨_, rfl, ?_⟩; have n0_ := Aside0.mk (blk_below (g := gb230) (o := .cells #[.int .i64 a0, .int .i64 1, .int .i64 0, .int .i64 1, .int .i64 13] 31 (0, 0)) (by (with_reducible repeat (first | refine blk_drewN ?_ _ | refine blk_drew ?_ | refine blk_alloc ?_ _)); refine blk_put (cs := #[.int .i64 a0, .int .i64 1, .int .i64 0, .int .i64 1, .int .i64 0]) ?_ 4 _ rfl; (with_reducible repeat (first | refine blk_drewN ?_ _ | refine blk_drew ?_ | refine blk_alloc ?_ _)); refine blk_put (cs := #[.int .i64 a0, .int .i64 1, .int .i64 0, .int .i64 0, .int .i64 0]) ?_ 3 _ rfl; (with_reducible repeat (first | refine blk_drewN ?_ _ | refine blk_drew ?_ | refine blk_alloc ?_ _)); refine blk_put (cs := #[.int .i64 a0, .int .i64 1, .int .i64 0, .int .i64 0, .int .i64 0]) ?_ 2 _ rfl; (with_reducible repeat (first | refine blk_drewN ?_ _ | refine blk_drew ?_ | refine blk_alloc ?_ _)); refine blk_put (cs := #[.int .i64 a0, .int .i64 0, .int .i64 0, .int .i64 0, .int .i64 0]) ?_ 1 _ rfl; (with_reducible repeat (first | refine blk_drewN ?_ _ | refine blk_drew ?_ | refine blk_alloc ?_ _)); refine blk_put (cs := #[.int .i64 0, .int .i64 0, .int .i64 0, .int .i64 0, .int .i64 0]) ?_ 0 _ rfl; (with_reducible repeat (first | refine blk_drewN ?_ _ | refine blk_drew ?_ | refine blk_alloc ?_ _)); exact BK230.out) hb); have n1_ := Aside0.mk (below_step (qG GE230.out) hb); clear BK230; clear HB; have BK230 := n0_; have HB := n1_; clear n0_ n1_; (try clear hb); (try clear hb2); (try clear hk); (try clear hi)))
      go_meet
      case rel => exact ⟨_, (true), (by first | rfl | (simp; done) | (simp [*]; done)), H', ⟨by first | omega | exact Nat.le_refl _⟩, ⟨by (with_reducible repeat (first | refine blk_drewN ?_ _ | refine blk_drew ?_ | refine blk_alloc ?_ _)); exact BK230.out⟩, ⟨by repeat (first | (with_reducible first | exact HB.out | apply below_alloc | apply pw_below_drewN | apply below_drew1 | refine below_set ?_ GE230.out) | exact HB.out)⟩⟩
  case rest =>
    clear HC5
    try clear c1
    try clear p2
    try clear c4
    try clear c9
    try clear c10
    try clear c10b0
    try clear c13
    try clear c13b0
    try clear c16
    try clear c16b0
    try clear c18
    try clear c19
    try clear c19b0
    try clear hcz11_0
    try clear hcz11_1
    try clear hcz11_2
    try clear hcz11_3
    try clear hcz11_4
    try clear hcz14_0
    try clear hcz14_1
    try clear hcz14_2
    try clear hcz14_3
    try clear hcz14_4
    try clear hcz17_0
    try clear hcz17_1
    try clear hcz17_2
    try clear hcz17_3
    try clear hcz17_4
    try clear hcz20_0
    try clear hcz20_1
    try clear hcz20_2
    try clear hcz20_3
    try clear hcz20_4
    try clear hcz22_0
    try clear hcz22_1
    try clear hcz22_2
    try clear hcz22_3
    try clear hcz22_4
    try clear hcz24_0
    try clear hcz24_1
    try clear hcz24_2
    try clear hcz24_3
    try clear hcz24_4
    try clear hcz7_0
    try clear hcz7_1
    try clear hcz7_2
    try clear hcz7_3
    try clear hcz7_4
    try clear hfz11_0
    try clear hfz11_1
    try clear hfz11_2
    try clear hfz11_3
    try clear hfz11_4
    try clear hfz14_0
    try clear hfz14_1
    try clear hfz14_2
    try clear hfz14_3
    try clear hfz14_4
    try clear hfz17_0
    try clear hfz17_1
    try clear hfz17_2
    try clear hfz17_3
    try clear hfz17_4
    try clear hfz20_0
    try clear hfz20_1
    try clear hfz20_2
    try clear hfz20_3
    try clear hfz20_4
    try clear hfz22_0
    try clear hfz22_1
    try clear hfz22_2
    try clear hfz22_3
    try clear hfz22_4
    try clear hfz24_0
    try clear hfz24_1
    try clear hfz24_2
    try clear hfz24_3
    try clear hfz24_4
    try clear hfz7_0
    try clear hfz7_1
    try clear hfz7_2
    try clear hfz7_3
    try clear hfz7_4
    obtain ⟨kq, x37_4, rfl, HA, HJ4, BK230, HB⟩ := hcut
    cases kq with
    | zero => exact absurd HA.out (by simp [laws_FnLineFixed.j0])
    | succ kj4 =>
      have H := HA.out
      clear HA
      simp only [laws_FnLineFixed.j0] at H
      by_cases c26 : x37_4 = true
      · subst c26
        have H1 : (some true) = some r := by rw [if_pos rfl] at H; exact H
        clear H
        have H := H1
        clear H1
        obtain rfl := Option.some.inj H
        go_wp2
        go_ret
        exact ⟨by first | rfl | (simp [errW_none, errW_some] <;> rfl) | (simp [*, errW_none, errW_some] <;> rfl), by repeat (first | (with_reducible first | exact HB.out | apply below_alloc | apply pw_below_drewN | apply below_drew1 | refine below_set ?_ GE230.out) | exact HB.out)⟩
      · replace c26 := Bool.eq_false_iff.mpr c26
        subst c26
        have H1 : ((some (([2] : List Int) : List Int)).bind fun y232 => ((spec_Unsigned.f kj4 (IntKind.u64.wrap (a1)) 0).bind fun t235 => (if y232.length + t235.length < 140737488355328 then ((some (y232 ++ t235 : List Int)).bind fun y238 => ((some (([9] : List Int) : List Int)).bind fun y241 => (if y238.length + y241.length < 140737488355328 then ((some (y238 ++ y241 : List Int)).bind fun y244 => ((spec_Fixed.f kj4 (IntKind.u64.wrap (a2)) 2 false).bind fun t247 => (if y244.length + t247.length < 140737488355328 then ((some (y244 ++ t247 : List Int)).bind fun y250 => ((some (([1] : List Int) : List Int)).bind fun y253 => (if y250.length + y253.length < 140737488355328 then ((laws_rowsOf.f kj4 a0 1 0 1 13 a3 (y250 ++ y253) 2).bind fun bt259 => (if bt259.2 = true then (if 0 < (bt259.1.length : Int) then (if ((rd_T38 bt259.1 0).f1) = 0 then (some (((rd_T38 bt259.1 0).f0) == (IntKind.u64.wrap (a3 + (IntKind.u64.wrap (wrap64 ((wrap64 (a0 * a1)) + a2))))))) else (some false)) else (none)) else (some false))) else (none)))) else (none)))) else (none)))) else (none)))) = some r := by rw [if_neg (show ¬ (false = true) by decide)] at H; exact H
        clear H
        have H := H1
        clear H1
        obtain ⟨y232, hy232⟩ : ∃ y_ : List Int, y_ = (([2] : List Int)) := ⟨_, rfl⟩
        replace H : ((spec_Unsigned.f kj4 (IntKind.u64.wrap (a1)) 0).bind fun t235 => (if y232.length + t235.length < 140737488355328 then ((some (y232 ++ t235 : List Int)).bind fun y238 => ((some (([9] : List Int) : List Int)).bind fun y241 => (if y238.length + y241.length < 140737488355328 then ((some (y238 ++ y241 : List Int)).bind fun y244 => ((spec_Fixed.f kj4 (IntKind.u64.wrap (a2)) 2 false).bind fun t247 => (if y244.length + t247.length < 140737488355328 then ((some (y244 ++ t247 : List Int)).bind fun y250 => ((some (([1] : List Int) : List Int)).bind fun y253 => (if y250.length + y253.length < 140737488355328 then ((laws_rowsOf.f kj4 a0 1 0 1 13 a3 (y250 ++ y253) 2).bind fun bt259 => (if bt259.2 = true then (if 0 < (bt259.1.length : Int) then (if ((rd_T38 bt259.1 0).f1) = 0 then (some (((rd_T38 bt259.1 0).f0) == (IntKind.u64.wrap (a3 + (IntKind.u64.wrap (wrap64 ((wrap64 (a0 * a1)) + a2))))))) else (some false)) else (none)) else (some false))) else (none)))) else (none)))) else (none)))) else (none))) = some r := by first | (rw [hy232]; with_reducible exact H) | (have H2_ := (Option.bind_some _ _).symm.trans H; rw [hy232]; with_reducible exact H2_) | (have H2_ := (Option.bind_some _ _).symm.trans H; with_reducible exact H2_) | with_reducible exact H | (rw [hy232]; exact H) | exact H
        have Ny232 := Aside0.mk hy232
        clear hy232
        replace H := Option.bind_eq_some_iff.mp H
        obtain ⟨t235, A270, H⟩ := H
        replace H : (if y232.length + t235.length < 140737488355328 then ((some (y232 ++ t235 : List Int)).bind fun y238 => ((some (([9] : List Int) : List Int)).bind fun y241 => (if y238.length + y241.length < 140737488355328 then ((some (y238 ++ y241 : List Int)).bind fun y244 => ((spec_Fixed.f kj4 (IntKind.u64.wrap (a2)) 2 false).bind fun t247 => (if y244.length + t247.length < 140737488355328 then ((some (y244 ++ t247 : List Int)).bind fun y250 => ((some (([1] : List Int) : List Int)).bind fun y253 => (if y250.length + y253.length < 140737488355328 then ((laws_rowsOf.f kj4 a0 1 0 1 13 a3 (y250 ++ y253) 2).bind fun bt259 => (if bt259.2 = true then (if 0 < (bt259.1.length : Int) then (if ((rd_T38 bt259.1 0).f1) = 0 then (some (((rd_T38 bt259.1 0).f0) == (IntKind.u64.wrap (a3 + (IntKind.u64.wrap (wrap64 ((wrap64 (a0 * a1)) + a2))))))) else (some false)) else (none)) else (some false))) else (none)))) else (none)))) else (none)))) else (none)) = some r := H
        have A27 := Aside0.mk A270
        clear A270
        by_cases c28 : y232.length + t235.length < 140737488355328
        · rw [if_pos c28] at H
          have LMc28 := Aside0.mk c28
          clear c28
          obtain ⟨y238, hy238⟩ : ∃ y_ : List Int, y_ = (y232 ++ t235) := ⟨_, rfl⟩
          replace H : ((some (([9] : List Int) : List Int)).bind fun y241 => (if y238.length + y241.length < 140737488355328 then ((some (y238 ++ y241 : List Int)).bind fun y244 => ((spec_Fixed.f kj4 (IntKind.u64.wrap (a2)) 2 false).bind fun t247 => (if y244.length + t247.length < 140737488355328 then ((some (y244 ++ t247 : List Int)).bind fun y250 => ((some (([1] : List Int) : List Int)).bind fun y253 => (if y250.length + y253.length < 140737488355328 then ((laws_rowsOf.f kj4 a0 1 0 1 13 a3 (y250 ++ y253) 2).bind fun bt259 => (if bt259.2 = true then (if 0 < (bt259.1.length : Int) then (if ((rd_T38 bt259.1 0).f1) = 0 then (some (((rd_T38 bt259.1 0).f0) == (IntKind.u64.wrap (a3 + (IntKind.u64.wrap (wrap64 ((wrap64 (a0 * a1)) + a2))))))) else (some false)) else (none)) else (some false))) else (none)))) else (none)))) else (none))) = some r := by first | (rw [hy238]; with_reducible exact H) | (have H2_ := (Option.bind_some _ _).symm.trans H; rw [hy238]; with_reducible exact H2_) | (have H2_ := (Option.bind_some _ _).symm.trans H; with_reducible exact H2_) | with_reducible exact H | (rw [hy238]; exact H) | exact H
          have Ny238 := Aside0.mk hy238
          clear hy238
          obtain ⟨y241, hy241⟩ : ∃ y_ : List Int, y_ = (([9] : List Int)) := ⟨_, rfl⟩
          replace H : (if y238.length + y241.length < 140737488355328 then ((some (y238 ++ y241 : List Int)).bind fun y244 => ((spec_Fixed.f kj4 (IntKind.u64.wrap (a2)) 2 false).bind fun t247 => (if y244.length + t247.length < 140737488355328 then ((some (y244 ++ t247 : List Int)).bind fun y250 => ((some (([1] : List Int) : List Int)).bind fun y253 => (if y250.length + y253.length < 140737488355328 then ((laws_rowsOf.f kj4 a0 1 0 1 13 a3 (y250 ++ y253) 2).bind fun bt259 => (if bt259.2 = true then (if 0 < (bt259.1.length : Int) then (if ((rd_T38 bt259.1 0).f1) = 0 then (some (((rd_T38 bt259.1 0).f0) == (IntKind.u64.wrap (a3 + (IntKind.u64.wrap (wrap64 ((wrap64 (a0 * a1)) + a2))))))) else (some false)) else (none)) else (some false))) else (none)))) else (none)))) else (none)) = some r := by first | (rw [hy241]; with_reducible exact H) | (have H2_ := (Option.bind_some _ _).symm.trans H; rw [hy241]; with_reducible exact H2_) | (have H2_ := (Option.bind_some _ _).symm.trans H; with_reducible exact H2_) | with_reducible exact H | (rw [hy241]; exact H) | exact H
          have Ny241 := Aside0.mk hy241
          clear hy241
          by_cases c29 : y238.length + y241.length < 140737488355328
          · rw [if_pos c29] at H
            have LMc29 := Aside0.mk c29
            clear c29
            obtain ⟨y244, hy244⟩ : ∃ y_ : List Int, y_ = (y238 ++ y241) := ⟨_, rfl⟩
            replace H : ((spec_Fixed.f kj4 (IntKind.u64.wrap (a2)) 2 false).bind fun t247 => (if y244.length + t247.length < 140737488355328 then ((some (y244 ++ t247 : List Int)).bind fun y250 => ((some (([1] : List Int) : List Int)).bind fun y253 => (if y250.length + y253.length < 140737488355328 then ((laws_rowsOf.f kj4 a0 1 0 1 13 a3 (y250 ++ y253) 2).bind fun bt259 => (if bt259.2 = true then (if 0 < (bt259.1.length : Int) then (if ((rd_T38 bt259.1 0).f1) = 0 then (some (((rd_T38 bt259.1 0).f0) == (IntKind.u64.wrap (a3 + (IntKind.u64.wrap (wrap64 ((wrap64 (a0 * a1)) + a2))))))) else (some false)) else (none)) else (some false))) else (none)))) else (none))) = some r := by first | (rw [hy244]; with_reducible exact H) | (have H2_ := (Option.bind_some _ _).symm.trans H; rw [hy244]; with_reducible exact H2_) | (have H2_ := (Option.bind_some _ _).symm.trans H; with_reducible exact H2_) | with_reducible exact H | (rw [hy244]; exact H) | exact H
            have Ny244 := Aside0.mk hy244
            clear hy244
            replace H := Option.bind_eq_some_iff.mp H
            obtain ⟨t247, A300, H⟩ := H
            replace H : (if y244.length + t247.length < 140737488355328 then ((some (y244 ++ t247 : List Int)).bind fun y250 => ((some (([1] : List Int) : List Int)).bind fun y253 => (if y250.length + y253.length < 140737488355328 then ((laws_rowsOf.f kj4 a0 1 0 1 13 a3 (y250 ++ y253) 2).bind fun bt259 => (if bt259.2 = true then (if 0 < (bt259.1.length : Int) then (if ((rd_T38 bt259.1 0).f1) = 0 then (some (((rd_T38 bt259.1 0).f0) == (IntKind.u64.wrap (a3 + (IntKind.u64.wrap (wrap64 ((wrap64 (a0 * a1)) + a2))))))) else (some false)) else (none)) else (some false))) else (none)))) else (none)) = some r := H
            have A30 := Aside0.mk A300
            clear A300
            by_cases c31 : y244.length + t247.length < 140737488355328
            · rw [if_pos c31] at H
              have LMc31 := Aside0.mk c31
              clear c31
              obtain ⟨y250, hy250⟩ : ∃ y_ : List Int, y_ = (y244 ++ t247) := ⟨_, rfl⟩
              replace H : ((some (([1] : List Int) : List Int)).bind fun y253 => (if y250.length + y253.length < 140737488355328 then ((laws_rowsOf.f kj4 a0 1 0 1 13 a3 (y250 ++ y253) 2).bind fun bt259 => (if bt259.2 = true then (if 0 < (bt259.1.length : Int) then (if ((rd_T38 bt259.1 0).f1) = 0 then (some (((rd_T38 bt259.1 0).f0) == (IntKind.u64.wrap (a3 + (IntKind.u64.wrap (wrap64 ((wrap64 (a0 * a1)) + a2))))))) else (some false)) else (none)) else (some false))) else (none))) = some r := by first | (rw [hy250]; with_reducible exact H) | (have H2_ := (Option.bind_some _ _).symm.trans H; rw [hy250]; with_reducible exact H2_) | (have H2_ := (Option.bind_some _ _).symm.trans H; with_reducible exact H2_) | with_reducible exact H | (rw [hy250]; exact H) | exact H
              have Ny250 := Aside0.mk hy250
              clear hy250
              obtain ⟨y253, hy253⟩ : ∃ y_ : List Int, y_ = (([1] : List Int)) := ⟨_, rfl⟩
              replace H : (if y250.length + y253.length < 140737488355328 then ((laws_rowsOf.f kj4 a0 1 0 1 13 a3 (y250 ++ y253) 2).bind fun bt259 => (if bt259.2 = true then (if 0 < (bt259.1.length : Int) then (if ((rd_T38 bt259.1 0).f1) = 0 then (some (((rd_T38 bt259.1 0).f0) == (IntKind.u64.wrap (a3 + (IntKind.u64.wrap (wrap64 ((wrap64 (a0 * a1)) + a2))))))) else (some false)) else (none)) else (some false))) else (none)) = some r := by first | (rw [hy253]; with_reducible exact H) | (have H2_ := (Option.bind_some _ _).symm.trans H; rw [hy253]; with_reducible exact H2_) | (have H2_ := (Option.bind_some _ _).symm.trans H; with_reducible exact H2_) | with_reducible exact H | (rw [hy253]; exact H) | exact H
              have Ny253 := Aside0.mk hy253
              clear hy253
              by_cases c32 : y250.length + y253.length < 140737488355328
              · rw [if_pos c32] at H
                have LMc32 := Aside0.mk c32
                clear c32
                obtain ⟨y256, hy256⟩ : ∃ y_ : List Int, y_ = (y250 ++ y253) := ⟨_, rfl⟩
                replace H : ((laws_rowsOf.f kj4 a0 1 0 1 13 a3 y256 2).bind fun bt259 => (if bt259.2 = true then (if 0 < (bt259.1.length : Int) then (if ((rd_T38 bt259.1 0).f1) = 0 then (some (((rd_T38 bt259.1 0).f0) == (IntKind.u64.wrap (a3 + (IntKind.u64.wrap (wrap64 ((wrap64 (a0 * a1)) + a2))))))) else (some false)) else (none)) else (some false))) = some r := by first | (rw [hy256]; with_reducible exact H) | (have H2_ := (Option.bind_some _ _).symm.trans H; rw [hy256]; with_reducible exact H2_) | (have H2_ := (Option.bind_some _ _).symm.trans H; with_reducible exact H2_) | with_reducible exact H | (rw [hy256]; exact H) | exact H
                have Ny256 := Aside0.mk hy256
                clear hy256
                replace H := Option.bind_eq_some_iff.mp H
                obtain ⟨⟨t259, t262⟩, A330, H⟩ := H
                replace H : (if t262 = true then (if 0 < (t259.length : Int) then (if ((rd_T38 t259 0).f1) = 0 then (some (((rd_T38 t259 0).f0) == (IntKind.u64.wrap (a3 + (IntKind.u64.wrap (wrap64 ((wrap64 (a0 * a1)) + a2))))))) else (some false)) else (none)) else (some false)) = some r := H
                have A33 := Aside0.mk A330
                clear A330
                by_cases c34 : t262 = true
                · subst c34
                  have H1 : (if 0 < (t259.length : Int) then (if ((rd_T38 t259 0).f1) = 0 then (some (((rd_T38 t259 0).f0) == (IntKind.u64.wrap (a3 + (IntKind.u64.wrap (wrap64 ((wrap64 (a0 * a1)) + a2))))))) else (some false)) else (none)) = some r := by rw [if_pos rfl] at H; exact H
                  clear H
                  have H := H1
                  clear H1
                  by_cases c35 : 0 < (t259.length : Int)
                  · rw [if_pos c35] at H
                    have c35b0 : decide (0 < (t259.length : Int)) = true := decide_eq_true c35
                    have c35b1 : decide (0 < t259.length) = true := decide_eq_true (by omega)
                    clear c35
                    by_cases c36 : ((rd_T38 t259 0).f1) = 0
                    · rw [if_pos c36] at H
                      have c36b0 : (((rd_T38 t259 0).f1) == 0) = true := beq_iff_eq.mpr c36
                      have c36b1 : (((rd_T38 t259 0).f1) != 0) = false := bne_eq_false_iff_eq.mpr c36
                      clear c36
                      obtain rfl := Option.some.inj H
                      try go_wp2_with (first | ((with_reducible refine gate_dst (N := 38) rfl ?_); refine Kd.R_lit (Kd.int .u8) _ 5 ?hg (N := 38) ?hd (xs := ([2] : List Int)) (inner := [.int .u8 2]) (ok := fun _ => True) (okp := fun _ => True) ?hr ?hp (fun _ hk => hk) trivial (Below.refl _ _) (Nat.le_refl _) (by simp) ?_; (case hd => rfl); (case hg => rfl); (case hr => first | (go_simp; done) | (go_simp; rfl)); (case hp => exact (Reps.one (show Kd.M (Kd.int .u8) _ _ _ 2 [.int .u8 2] from rfl) (Reps.none _ _))); intro v233 w37 ho38 hb hg_ hnew_; clear hg_ hnew_; (first | rw [← Ny232.out] at ho38 | (simp only [Int.reduceToNat] at ho38; rw [← Ny232.out] at ho38)); have n0_ := Aside0.mk (Kd.R_lower ho38 (below_size (qG GE230.out))); have n1_ := Aside0.mk (blk_below (g := gb230) (o := .cells #[.int .i64 a0, .int .i64 1, .int .i64 0, .int .i64 1, .int .i64 13] 31 (0, 0)) (qK BK230.out) hb); have n2_ := Aside0.mk (below_step (qG GE230.out) hb); clear BK230; clear HB; have HO234 := n0_; have BK230 := n1_; have HB := n2_; clear n0_ n1_ n2_; clear hb ho38) | ((with_reducible refine gate_callee (f := 13) rfl ?_); refine goesL_ (some 41) rfl rfl Tryd.func13 (by kernel_rfl) rfl #[.int .u64 (IntKind.u64.wrap (a1)), .int .i64 0] rfl qL ?_; (with_reducible refine (spec_Unsigned.calls kj4 (IntKind.u64.wrap (a1)) 0 t235 _ A27.out).mono ?_); rintro e w39 ⟨v236, rfl, ho0, hb⟩; refine ⟨_, rfl, ?_⟩; have n0_ := Aside0.mk (Kd.R_elder' (qR HO234.out) (Kd.R_base ho0) hb); have n1_ := Aside0.mk (Kd.R_lower (Kd.R_new' ho0 (Kd.R_lt (qR HO234.out))) (below_size (qG GE230.out))); have n2_ := Aside0.mk (blk_below (g := gb230) (o := .cells #[.int .i64 a0, .int .i64 1, .int .i64 0, .int .i64 1, .int .i64 13] 31 (0, 0)) (qK BK230.out) hb); have n3_ := Aside0.mk (below_step (qG GE230.out) hb); clear HO234; clear BK230; clear HB; have HO234 := n0_; have HO237 := n1_; have BK230 := n2_; have HB := n3_; clear n0_ n1_ n2_ n3_; (try clear hb); (try clear hb2); (try clear hk); (try clear hi); (try clear ho0); obtain ⟨Ao41, co41, eo41⟩ := Kd.R_slice HO237.out; subst eo41) | ((with_reducible refine gate_builtin (b := .append) (xs := #[.tmp 38, .tmp 41]) rfl ?_); at_builtin; refine Kd.R_append_rows (Kd.int .u8) (w0 := w) w.heap.size rfl (.tmp 38) (.tmp 41) 23 5 (.int .u8 0) 1 rfl Tryd.underlying23 info5 rfl (by decide) (by omega) v233 y232 t235 _ _ _ (fun k_ => some k_ ≠ (.slice Ao41 t235.length co41 : Value).ownBlock) (fun _ => False) rfl rfl ?aO ?aR (fun _ _ h => h) (fun _ h => h.elim) ?aF ?aB ?aS ?aL ?_; (case aR => exact qC (Kd.R_reads' HO237.out).2.2); (case aB => exact (qG GE230.out)); (case aF => exact (fun k_ hk => Kd.fresh' (Kd.R_lt (qR HO237.out)) k_ hk)); (case aO => exact (by (with_reducible repeat (first | apply Kd.R_alloc | apply Kd.R_drewN | apply Kd.R_drew)); exact Kd.R_mono HO234.out (fun _ hk => hk.2))); (case aS => exact (below_size (qG GE230.out))); (case aL => have := LMc28.out; omega); intro v239 w40 ho hb hg hat; rw [← Ny238.out] at ho; have n0_ := Aside0.mk (blk_grown (g := gb230) (o := .cells #[.int .i64 a0, .int .i64 1, .int .i64 0, .int .i64 1, .int .i64 13] 31 (0, 0)) (qK BK230.out) hg (Kd.R_ne HO234.out BK230.out (by decide))); have n1_ := Aside0.mk (Kd.R_after (ok := (fun _ => True)) (qR HO237.out) hg hat); have n2_ := Aside0.mk (hb); have n3_ := Aside0.mk (ho); clear BK230; clear HO237; clear HB; clear HO234; have BK230 := n0_; have HO237 := n1_; have HB := n2_; have HO240 := n3_; clear n0_ n1_ n2_ n3_; clear ho hb hg hat) | ((with_reducible refine gate_dst (N := 43) rfl ?_); refine Kd.R_lit (Kd.int .u8) _ 5 ?hg (N := 43) ?hd (xs := ([9] : List Int)) (inner := [.int .u8 9]) (ok := fun _ => True) (okp := fun _ => True) ?hr ?hp (fun _ hk => hk) trivial (Below.refl _ _) (Nat.le_refl _) (by simp) ?_; (case hd => rfl); (case hg => rfl); (case hr => first | (go_simp; done) | (go_simp; rfl)); (case hp => exact (Reps.one (show Kd.M (Kd.int .u8) _ _ _ 9 [.int .u8 9] from rfl) (Reps.none _ _))); intro v242 w42 ho43 hb hg_ hnew_; clear hg_ hnew_; (first | rw [← Ny241.out] at ho43 | (simp only [Int.reduceToNat] at ho43; rw [← Ny241.out] at ho43)); have n0_ := Aside0.mk (Kd.R_elder' (qR HO237.out) (Kd.R_base ho43) hb); have n1_ := Aside0.mk (Kd.R_elder' (qR HO240.out) (Kd.R_base ho43) hb); have n2_ := Aside0.mk (Kd.R_lower (Kd.R_new' (Kd.R_new' ho43 (Kd.R_lt (qR HO237.out))) (Kd.R_lt (qR HO240.out))) (below_size (qG GE230.out))); have n3_ := Aside0.mk (blk_below (g := gb230) (o := .cells #[.int .i64 a0, .int .i64 1, .int .i64 0, .int .i64 1, .int .i64 13] 31 (0, 0)) (qK BK230.out) hb); have n4_ := Aside0.mk (below_step (qG GE230.out) hb); clear HO237; clear HO240; clear BK230; clear HB; have HO237 := n0_; have HO240 := n1_; have HO243 := n2_; have BK230 := n3_; have HB := n4_; clear n0_ n1_ n2_ n3_ n4_; clear hb ho43; obtain ⟨Ao45, co45, eo45⟩ := Kd.R_slice HO243.out; subst eo45) | ((with_reducible refine gate_builtin (b := .append) (xs := #[.tmp 42, .tmp 43]) rfl ?_); at_builtin; refine Kd.R_append_rows (Kd.int .u8) (w0 := w) w.heap.size rfl (.tmp 42) (.tmp 43) 23 5 (.int .u8 0) 1 rfl Tryd.underlying23 info5 rfl (by decide) (by omega) v239 y238 y241 _ _ _ (fun k_ => some k_ ≠ (.slice Ao41 t235.length co41 : Value).ownBlock ∧ some k_ ≠ (.slice Ao45 y241.length co45 : Value).ownBlock) (fun _ => False) rfl rfl ?aO ?aR (fun _ _ h => h) (fun _ h => h.elim) ?aF ?aB ?aS ?aL ?_; (case aR => exact qC (Kd.R_reads' HO243.out).2.2); (case aB => exact (qG GE230.out)); (case aF => exact (fun k_ hk => ⟨Kd.fresh' (Kd.R_lt (qR HO237.out)) k_ hk, Kd.fresh' (Kd.R_lt (qR HO243.out)) k_ hk⟩)); (case aO => exact (qR HO240.out)); (case aS => exact (below_size (qG GE230.out))); (case aL => have := LMc29.out; omega); intro v245 w44 ho hb hg hat; rw [← Ny244.out] at ho; have n0_ := Aside0.mk (blk_grown (g := gb230) (o := .cells #[.int .i64 a0, .int .i64 1, .int .i64 0, .int .i64 1, .int .i64 13] 31 (0, 0)) (qK BK230.out) hg (Kd.R_ne HO240.out BK230.out (by decide))); have n1_ := Aside0.mk (Kd.R_after (ok := (fun k_ => some k_ ≠ (.slice Ao45 y241.length co45 : Value).ownBlock)) (by (with_reducible repeat (first | apply Kd.R_alloc | apply Kd.R_drewN | apply Kd.R_drew)); exact Kd.R_mono HO237.out (fun _ hk => ⟨hk.2, hk.1.2⟩)) hg hat); have n2_ := Aside0.mk (Kd.R_after (ok := (fun k_ => some k_ ≠ (.slice Ao41 t235.length co41 : Value).ownBlock)) (by (with_reducible repeat (first | apply Kd.R_alloc | apply Kd.R_drewN | apply Kd.R_drew)); exact Kd.R_mono HO243.out (fun _ hk => ⟨hk.1.2, hk.2⟩)) hg hat); have n3_ := Aside0.mk (hb); have n4_ := Aside0.mk (ho); clear BK230; clear HO237; clear HO243; clear HB; clear HO240; have BK230 := n0_; have HO237 := n1_; have HO243 := n2_; have HB := n3_; have HO246 := n4_; clear n0_ n1_ n2_ n3_ n4_; clear ho hb hg hat; obtain ⟨Ao46, co46, eo46⟩ := Kd.R_slice HO246.out; subst eo46))
                      have n0_ := Aside0.mk (Kd.R_drew HO237.out)
                      have n1_ := Aside0.mk (Kd.R_drew HO243.out)
                      have n2_ := Aside0.mk (Kd.R_drew HO246.out)
                      have n3_ := Aside0.mk (blk_drew BK230.out)
                      have n4_ := Aside0.mk (below_drew1 HB.out)
                      clear HO237
                      clear HO243
                      clear HO246
                      clear BK230
                      clear HB
                      have HO237 := n0_
                      have HO243 := n1_
                      have HO246 := n2_
                      have BK230 := n3_
                      have HB := n4_
                      clear n0_ n1_ n2_ n3_ n4_
                      refine start_ (n := 15) (S := fun w' => w'.cell? ⟨gb230, 0, none⟩ = some (.int .i64 a0) ∧ w'.cell? ⟨gb230, 1, none⟩ = some (.int .i64 1) ∧ w'.cell? ⟨gb230, 2, none⟩ = some (.int .i64 0) ∧ w'.cell? ⟨gb230, 3, none⟩ = some (.int .i64 1) ∧ w'.cell? ⟨gb230, 4, none⟩ = some (.int .i64 13)) (ds := []) #[false, false, false, false, false, false, false, false, false, false, false, false, false, false, false] (by kernel_rfl) rfl rfl ⟨(blk_cell BK230.out 0).trans rfl, (blk_cell BK230.out 1).trans rfl, (blk_cell BK230.out 2).trans rfl, (blk_cell BK230.out 3).trans rfl, (blk_cell BK230.out 4).trans rfl⟩ (fun hHeld => ?_); refine with_tabW laws_FnLineFixed.tab5 laws_FnLineFixed.bits5 (fun HT_ HW_ => ?_)
                      generalize w44.drew = w47 at HO237 HO243 HO246 BK230 HB hHeld ⊢
                      refine pure_ (i := 1) (N := some 47) (v := ?_) (a' := ?_) #[false, true, false, false, false, false, false, false, false, false, false, false, false, false, false] rfl rfl (any_of HT_.out (by kernel_rfl)) (fun _ _ _ h => h) (Or.inl ⟨by rfl, ?_⟩) ?_ ?_
                      rotate_left
                      · intro w'
                        go_simp
                        with_reducible rfl
                      rotate_left
                      · simp only [Act.put, List.setIfInBounds_toArray, List.set_cons_zero, List.set_cons_succ, i64_w, i32_w]
                        rfl
                      refine pure_ (i := 2) (N := some 48) (v := ?_) (a' := ?_) #[false, true, true, false, false, false, false, false, false, false, false, false, false, false, false] rfl rfl (any_of HT_.out (by kernel_rfl)) (fun _ _ _ h => h) (Or.inl ⟨by rfl, ?_⟩) ?_ ?_
                      rotate_left
                      · intro w'
                        go_simp
                        with_reducible rfl
                      rotate_left
                      · simp only [Act.put, List.setIfInBounds_toArray, List.set_cons_zero, List.set_cons_succ, i64_w, i32_w]
                        rfl
                      refine pure_ (i := 3) (N := some 49) (v := ?_) (a' := ?_) #[false, true, true, true, false, false, false, false, false, false, false, false, false, false, false] rfl rfl (any_of HT_.out (by kernel_rfl)) (fun _ _ _ h => h) (Or.inl ⟨by rfl, ?_⟩) ?_ ?_
                      rotate_left
                      · intro w'
                        go_simp
                        with_reducible rfl
                      rotate_left
                      · simp only [Act.put, List.setIfInBounds_toArray, List.set_cons_zero, List.set_cons_succ, i64_w, i32_w]
                        rfl
                      refine pure_ (i := 4) (N := some 50) (v := ?_) (a' := ?_) #[false, true, true, true, true, false, false, false, false, false, false, false, false, false, false] rfl rfl (any_of HT_.out (by kernel_rfl)) (fun _ _ _ h => h) (Or.inl ⟨by rfl, ?_⟩) ?_ ?_
                      rotate_left
                      · intro w'
                        go_simp
                        with_reducible rfl
                      rotate_left
                      · simp only [Act.put, List.setIfInBounds_toArray, List.set_cons_zero, List.set_cons_succ, i64_w, i32_w]
                        rfl
                      refine take_ (i := 0) (N := some 46) (v := ?_) (a' := ?_) #[true, true, true, true, true, false, false, false, false, false, false, false, false, false, false] rfl rfl (take_ofW HT_.out HW_.out (by kernel_rfl)) (fun _ _ _ h => h) (Or.inl ⟨by rfl, ?_⟩) hHeld ?_ ?_
                      rotate_left
                      · rintro w' ⟨s0, s1, s2, s3, s4⟩
                        go_simp
                        with_reducible rfl
                      rotate_left
                      · simp only [Act.put, List.setIfInBounds_toArray, List.set_cons_zero, List.set_cons_succ, i64_w, i32_w]
                        rfl
                      refine join_ (σ := Value × Value × Value) 7 #[true, true, true, true, true, true, true, true, false, false, false, false, false, false, false] (fun s_ => [(51, s_.1), (52, s_.2.1), (53, s_.2.2)]) (fun s_ w' => (w'.cell? ⟨gb230, 0, none⟩ = some (.int .i64 a0) ∧ w'.cell? ⟨gb230, 1, none⟩ = some (.int .i64 1) ∧ w'.cell? ⟨gb230, 2, none⟩ = some (.int .i64 0) ∧ w'.cell? ⟨gb230, 3, none⟩ = some (.int .i64 1) ∧ w'.cell? ⟨gb230, 4, none⟩ = some (.int .i64 13)) ∧ (Kd.R (Kd.int .u8) 5 w' w.heap.size (fun k_ => some k_ ≠ (.slice Ao45 y241.length co45 : Value).ownBlock ∧ some k_ ≠ (s_.1 : Value).ownBlock ∧ some k_ ≠ (s_.2.1 : Value).ownBlock ∧ some k_ ≠ (s_.2.2 : Value).ownBlock) (.slice Ao41 t235.length co41) t235) ∧ (Kd.R (Kd.int .u8) 5 w' w.heap.size (fun k_ => some k_ ≠ (.slice Ao41 t235.length co41 : Value).ownBlock ∧ some k_ ≠ (s_.1 : Value).ownBlock ∧ some k_ ≠ (s_.2.1 : Value).ownBlock ∧ some k_ ≠ (s_.2.2 : Value).ownBlock) (.slice Ao45 y241.length co45) y241) ∧ (Kd.R (Kd.int .u8) 5 w' w.heap.size (fun k_ => some k_ ≠ (.slice Ao41 t235.length co41 : Value).ownBlock ∧ some k_ ≠ (.slice Ao45 y241.length co45 : Value).ownBlock ∧ some k_ ≠ (s_.2.1 : Value).ownBlock ∧ some k_ ≠ (s_.2.2 : Value).ownBlock) s_.1 t247) ∧ (Kd.R (Kd.int .u8) 5 w' w.heap.size (fun k_ => some k_ ≠ (.slice Ao41 t235.length co41 : Value).ownBlock ∧ some k_ ≠ (.slice Ao45 y241.length co45 : Value).ownBlock ∧ some k_ ≠ (s_.1 : Value).ownBlock ∧ some k_ ≠ (s_.2.2 : Value).ownBlock) s_.2.1 y250) ∧ (Kd.R (Kd.int .u8) 5 w' w.heap.size (fun k_ => some k_ ≠ (.slice Ao41 t235.length co41 : Value).ownBlock ∧ some k_ ≠ (.slice Ao45 y241.length co45 : Value).ownBlock ∧ some k_ ≠ (s_.1 : Value).ownBlock ∧ some k_ ≠ (s_.2.1 : Value).ownBlock) s_.2.2 y253) ∧ (w'.heap[gb230]? = some (.cells #[.int .i64 a0, .int .i64 1, .int .i64 0, .int .i64 1, .int .i64 13] 31 (0, 0))) ∧ (Below w.heap.size w w')) ?_ ?_
                      rotate_left
                      · intro hCont
                        refine two_ (i := 5) (j := 7) (Ni := some 51) (Nj := some 53) #[true, true, true, true, true, true, false, false, false, false, false, false, false, false, false] #[true, true, true, true, true, false, false, true, false, false, false, false, false, false, false] rfl rfl rfl rfl (two_of HT_.out (by kernel_rfl)) (by decide) (by decide) (fun K hK => ?_) (fun K hK => ?_)
                        · skip
                          refine goes_ Tryd.func20 (by kernel_rfl) rfl #[.int .u64 (IntKind.u64.wrap (a2)), .int .i64 2, .bool false] (by rfl) rfl rfl qL ?_
                          with_reducible refine (spec_Fixed.calls kj4 (IntKind.u64.wrap (a2)) 2 false t247 _ A30.out).mono ?_
                          rintro e w48 ⟨v248, rfl, ho0, hb⟩
                          refine ⟨_, rfl, ?_⟩
                          have n0_ := Aside0.mk (Kd.R_elder' (qR HO237.out) (Kd.R_base ho0) hb)
                          have n1_ := Aside0.mk (Kd.R_elder' (qR HO243.out) (Kd.R_base ho0) hb)
                          have n2_ := Aside0.mk (Kd.R_elder' (qR HO246.out) (Kd.R_base ho0) hb)
                          have n3_ := Aside0.mk (Kd.R_lower (Kd.R_new' (Kd.R_new' (Kd.R_new' ho0 (Kd.R_lt (qR HO237.out))) (Kd.R_lt (qR HO243.out))) (Kd.R_lt (qR HO246.out))) (below_size (qG GE230.out)))
                          have n4_ := Aside0.mk (blk_below (g := gb230) (o := .cells #[.int .i64 a0, .int .i64 1, .int .i64 0, .int .i64 1, .int .i64 13] 31 (0, 0)) (qK BK230.out) hb)
                          have n5_ := Aside0.mk (below_step (qG GE230.out) hb)
                          clear HO237
                          clear HO243
                          clear HO246
                          clear BK230
                          clear HB
                          have HO237 := n0_
                          have HO243 := n1_
                          have HO246 := n2_
                          have HO249 := n3_
                          have BK230 := n4_
                          have HB := n5_
                          clear n0_ n1_ n2_ n3_ n4_ n5_
                          (try clear hb)
                          (try clear hb2)
                          (try clear hk)
                          (try clear hi)
                          (try clear ho0)
                          obtain ⟨Ao50, co50, eo50⟩ := Kd.R_slice HO249.out
                          (first | subst eo50 | (injection eo50 with f1_ f2_ f3_; have f4_ := f1_.symm; have f5_ := f3_.symm; clear f1_ f2_ f3_; subst f4_; subst f5_))
                          refine hK.out _ _ ⟨(blk_cell BK230.out 0).trans rfl, (blk_cell BK230.out 1).trans rfl, (blk_cell BK230.out 2).trans rfl, (blk_cell BK230.out 3).trans rfl, (blk_cell BK230.out 4).trans rfl⟩ (fun hHeld => ?_)
                          clear hK K
                          refine norm_ (a' := ?_) ?_ ?_
                          rotate_left
                          · show Act.put _ (some 51) _ = _
                            simp only [Act.put, List.setIfInBounds_toArray, List.set_cons_zero, List.set_cons_succ, i64_w, i32_w]
                            rfl
                          refine two_ (i := 6) (j := 7) (Ni := some 52) (Nj := some 53) #[true, true, true, true, true, true, true, false, false, false, false, false, false, false, false] #[true, true, true, true, true, true, false, true, false, false, false, false, false, false, false] rfl rfl rfl rfl (two_of HT_.out (by kernel_rfl)) (by decide) (by decide) (fun K hK => ?_) (fun K hK => ?_)
                          · skip
                            refine Kd.R_append_rows_step (Kd.int .u8) (w0 := w) w.heap.size (by rfl) (.tmp 48) (.tmp 51) 23 5 (.int .u8 0) 1 rfl Tryd.underlying23 info5 rfl (by decide) (by omega) (.slice Ao46 y244.length co46) y244 t247 _ _ _ (fun k_ => some k_ ≠ (.slice Ao41 t235.length co41 : Value).ownBlock ∧ some k_ ≠ (.slice Ao45 y241.length co45 : Value).ownBlock ∧ some k_ ≠ (.slice Ao50 t247.length co50 : Value).ownBlock) (fun _ => False) rfl rfl ?aO ?aR (fun _ _ h => h) (fun _ h => h.elim) ?aF ?aB ?aS ?aL ?_
                            (case aR => exact qC (Kd.R_reads' HO249.out).2.2)
                            (case aB => exact (qG GE230.out))
                            (case aF => exact (fun k_ hk => ⟨Kd.fresh' (Kd.R_lt (qR HO237.out)) k_ hk, Kd.fresh' (Kd.R_lt (qR HO243.out)) k_ hk, Kd.fresh' (Kd.R_lt (qR HO249.out)) k_ hk⟩))
                            (case aO => exact (by (with_reducible repeat (first | apply Kd.R_alloc | apply Kd.R_drewN | apply Kd.R_drew)); exact Kd.R_mono HO246.out (fun _ hk => ⟨hk.1.1, ⟨hk.1.2, hk.2⟩⟩)))
                            (case aS => exact (below_size (qG GE230.out)))
                            (case aL => have := LMc31.out; omega)
                            intro v251 w49 ho hb hg hat
                            rw [← Ny250.out] at ho
                            have n0_ := Aside0.mk (blk_grown (g := gb230) (o := .cells #[.int .i64 a0, .int .i64 1, .int .i64 0, .int .i64 1, .int .i64 13] 31 (0, 0)) (qK BK230.out) hg (Kd.R_ne HO246.out BK230.out (by decide)))
                            have n1_ := Aside0.mk (Kd.R_after (ok := (fun k_ => some k_ ≠ (.slice Ao45 y241.length co45 : Value).ownBlock ∧ some k_ ≠ (.slice Ao50 t247.length co50 : Value).ownBlock)) (by (with_reducible repeat (first | apply Kd.R_alloc | apply Kd.R_drewN | apply Kd.R_drew)); exact Kd.R_mono HO237.out (fun _ hk => ⟨⟨hk.1.1, hk.2⟩, hk.1.2⟩)) hg hat)
                            have n2_ := Aside0.mk (Kd.R_after (ok := (fun k_ => some k_ ≠ (.slice Ao41 t235.length co41 : Value).ownBlock ∧ some k_ ≠ (.slice Ao50 t247.length co50 : Value).ownBlock)) (by (with_reducible repeat (first | apply Kd.R_alloc | apply Kd.R_drewN | apply Kd.R_drew)); exact Kd.R_mono HO243.out (fun _ hk => ⟨⟨hk.1.1, hk.2⟩, hk.1.2⟩)) hg hat)
                            have n3_ := Aside0.mk (Kd.R_after (ok := (fun k_ => some k_ ≠ (.slice Ao41 t235.length co41 : Value).ownBlock ∧ some k_ ≠ (.slice Ao45 y241.length co45 : Value).ownBlock)) (by (with_reducible repeat (first | apply Kd.R_alloc | apply Kd.R_drewN | apply Kd.R_drew)); exact Kd.R_mono HO249.out (fun _ hk => ⟨⟨hk.1.1.2, hk.1.2⟩, hk.2⟩)) hg hat)
                            have n4_ := Aside0.mk (hb)
                            have n5_ := Aside0.mk (ho)
                            clear BK230
                            clear HO237
                            clear HO243
                            clear HO249
                            clear HB
                            clear HO246
                            have BK230 := n0_
                            have HO237 := n1_
                            have HO243 := n2_
                            have HO249 := n3_
                            have HB := n4_
                            have HO252 := n5_
                            clear n0_ n1_ n2_ n3_ n4_ n5_
                            clear ho hb hg hat
                            refine hK.out _ _ ⟨(blk_cell BK230.out 0).trans rfl, (blk_cell BK230.out 1).trans rfl, (blk_cell BK230.out 2).trans rfl, (blk_cell BK230.out 3).trans rfl, (blk_cell BK230.out 4).trans rfl⟩ (fun hHeld => ?_)
                            clear hK K
                            refine norm_ (a' := ?_) ?_ ?_
                            rotate_left
                            · show Act.put _ (some 52) _ = _
                              simp only [Act.put, List.setIfInBounds_toArray, List.set_cons_zero, List.set_cons_succ, i64_w, i32_w]
                              rfl
                            refine one_ (i := 7) (N := some 53) #[true, true, true, true, true, true, true, true, false, false, false, false, false, false, false] rfl rfl (one_of HT_.out (by kernel_rfl)) (by decide) (fun K hK => ?_)
                            refine Kd.R_lit_step (Kd.int .u8) _ 5 ?hg (N := 53) ?hd (xs := ([1] : List Int)) (inner := [.int .u8 1]) (ok := fun _ => True) (okp := fun _ => True) ?hr ?hp (fun _ hk => hk) trivial (Below.refl _ _) (Nat.le_refl _) (by simp) ?_; (case hd => rfl); (case hg => rfl); (case hr => first | (go_simp; done) | (go_simp; rfl)); (case hp => exact (Reps.one (show Kd.M (Kd.int .u8) _ _ _ 1 [.int .u8 1] from rfl) (Reps.none _ _)))
                            intro v254 w51 ho52 hb hg_ hnew_
                            clear hg_ hnew_
                            (first | rw [← Ny253.out] at ho52 | (simp only [Int.reduceToNat] at ho52; rw [← Ny253.out] at ho52))
                            have n0_ := Aside0.mk (Kd.R_elder' (qR HO237.out) (Kd.R_base ho52) hb)
                            have n1_ := Aside0.mk (Kd.R_elder' (qR HO243.out) (Kd.R_base ho52) hb)
                            have n2_ := Aside0.mk (Kd.R_elder' (qR HO249.out) (Kd.R_base ho52) hb)
                            have n3_ := Aside0.mk (Kd.R_elder' (qR HO252.out) (Kd.R_base ho52) hb)
                            have n4_ := Aside0.mk (Kd.R_lower (Kd.R_new' (Kd.R_new' (Kd.R_new' (Kd.R_new' ho52 (Kd.R_lt (qR HO237.out))) (Kd.R_lt (qR HO243.out))) (Kd.R_lt (qR HO249.out))) (Kd.R_lt (qR HO252.out))) (below_size (qG GE230.out)))
                            have n5_ := Aside0.mk (blk_below (g := gb230) (o := .cells #[.int .i64 a0, .int .i64 1, .int .i64 0, .int .i64 1, .int .i64 13] 31 (0, 0)) (qK BK230.out) hb)
                            have n6_ := Aside0.mk (below_step (qG GE230.out) hb)
                            clear HO237
                            clear HO243
                            clear HO249
                            clear HO252
                            clear BK230
                            clear HB
                            have HO237 := n0_
                            have HO243 := n1_
                            have HO249 := n2_
                            have HO252 := n3_
                            have HO255 := n4_
                            have BK230 := n5_
                            have HB := n6_
                            clear n0_ n1_ n2_ n3_ n4_ n5_ n6_
                            clear hb ho52
                            refine hK.out _ _ ⟨(blk_cell BK230.out 0).trans rfl, (blk_cell BK230.out 1).trans rfl, (blk_cell BK230.out 2).trans rfl, (blk_cell BK230.out 3).trans rfl, (blk_cell BK230.out 4).trans rfl⟩ (fun hHeld => ?_)
                            clear hK K
                            refine norm_ (a' := ?_) ?_ ?_
                            rotate_left
                            · show Act.put _ (some 53) _ = _
                              simp only [Act.put, List.setIfInBounds_toArray, List.set_cons_zero, List.set_cons_succ, i64_w, i32_w]
                              rfl
                            exact norm_ (by simp only [putAll, Act.put, List.setIfInBounds_toArray, List.set_cons_zero, List.set_cons_succ]) (hCont (.slice Ao50 t247.length co50, v251, v254) _ ⟨hHeld, (by (with_reducible repeat (first | apply Kd.R_alloc | apply Kd.R_drewN | apply Kd.R_drew)); exact Kd.R_mono HO237.out (fun _ hk => ⟨hk.1.1.1, ⟨hk.1.1.2, ⟨hk.1.2, hk.2⟩⟩⟩)), (by (with_reducible repeat (first | apply Kd.R_alloc | apply Kd.R_drewN | apply Kd.R_drew)); exact Kd.R_mono HO243.out (fun _ hk => ⟨hk.1.1.1, ⟨hk.1.1.2, ⟨hk.1.2, hk.2⟩⟩⟩)), (by (with_reducible repeat (first | apply Kd.R_alloc | apply Kd.R_drewN | apply Kd.R_drew)); exact Kd.R_mono HO249.out (fun _ hk => ⟨hk.1.1.1, ⟨hk.1.1.2, ⟨hk.1.2, hk.2⟩⟩⟩)), (by (with_reducible repeat (first | apply Kd.R_alloc | apply Kd.R_drewN | apply Kd.R_drew)); exact Kd.R_mono HO252.out (fun _ hk => ⟨hk.1.1, ⟨hk.1.2.1, ⟨hk.1.2.2, hk.2⟩⟩⟩)), (by (with_reducible repeat (first | apply Kd.R_alloc | apply Kd.R_drewN | apply Kd.R_drew)); exact Kd.R_mono HO255.out (fun _ hk => ⟨hk.1.1.1.2, ⟨hk.1.1.2, ⟨hk.1.2, hk.2⟩⟩⟩)), (qK BK230.out), (qG GE230.out)⟩)
                          · skip
                            refine Kd.R_lit_step (Kd.int .u8) _ 5 ?hg (N := 53) ?hd (xs := ([1] : List Int)) (inner := [.int .u8 1]) (ok := fun _ => True) (okp := fun _ => True) ?hr ?hp (fun _ hk => hk) trivial (Below.refl _ _) (Nat.le_refl _) (by simp) ?_; (case hd => rfl); (case hg => rfl); (case hr => first | (go_simp; done) | (go_simp; rfl)); (case hp => exact (Reps.one (show Kd.M (Kd.int .u8) _ _ _ 1 [.int .u8 1] from rfl) (Reps.none _ _)))
                            intro v254 w49 ho50 hb hg_ hnew_
                            clear hg_ hnew_
                            (first | rw [← Ny253.out] at ho50 | (simp only [Int.reduceToNat] at ho50; rw [← Ny253.out] at ho50))
                            have n0_ := Aside0.mk (Kd.R_elder' (qR HO237.out) (Kd.R_base ho50) hb)
                            have n1_ := Aside0.mk (Kd.R_elder' (qR HO243.out) (Kd.R_base ho50) hb)
                            have n2_ := Aside0.mk (Kd.R_elder' (qR HO246.out) (Kd.R_base ho50) hb)
                            have n3_ := Aside0.mk (Kd.R_elder' (qR HO249.out) (Kd.R_base ho50) hb)
                            have n4_ := Aside0.mk (Kd.R_lower (Kd.R_new' (Kd.R_new' (Kd.R_new' (Kd.R_new' ho50 (Kd.R_lt (qR HO237.out))) (Kd.R_lt (qR HO243.out))) (Kd.R_lt (qR HO246.out))) (Kd.R_lt (qR HO249.out))) (below_size (qG GE230.out)))
                            have n5_ := Aside0.mk (blk_below (g := gb230) (o := .cells #[.int .i64 a0, .int .i64 1, .int .i64 0, .int .i64 1, .int .i64 13] 31 (0, 0)) (qK BK230.out) hb)
                            have n6_ := Aside0.mk (below_step (qG GE230.out) hb)
                            clear HO237
                            clear HO243
                            clear HO246
                            clear HO249
                            clear BK230
                            clear HB
                            have HO237 := n0_
                            have HO243 := n1_
                            have HO246 := n2_
                            have HO249 := n3_
                            have HO255 := n4_
                            have BK230 := n5_
                            have HB := n6_
                            clear n0_ n1_ n2_ n3_ n4_ n5_ n6_
                            clear hb ho50
                            obtain ⟨Ao52, co52, eo52⟩ := Kd.R_slice HO249.out
                            (first | subst eo52 | (injection eo52 with f1_ f2_ f3_; have f4_ := f1_.symm; have f5_ := f3_.symm; clear f1_ f2_ f3_; subst f4_; subst f5_))
                            refine hK.out _ _ ⟨(blk_cell BK230.out 0).trans rfl, (blk_cell BK230.out 1).trans rfl, (blk_cell BK230.out 2).trans rfl, (blk_cell BK230.out 3).trans rfl, (blk_cell BK230.out 4).trans rfl⟩ (fun hHeld => ?_)
                            clear hK K
                            refine norm_ (a' := ?_) ?_ ?_
                            rotate_left
                            · show Act.put _ (some 53) _ = _
                              simp only [Act.put, List.setIfInBounds_toArray, List.set_cons_zero, List.set_cons_succ, i64_w, i32_w]
                              rfl
                            refine one_ (i := 6) (N := some 52) #[true, true, true, true, true, true, true, true, false, false, false, false, false, false, false] rfl rfl (one_of HT_.out (by kernel_rfl)) (by decide) (fun K hK => ?_)
                            refine Kd.R_append_rows_step (Kd.int .u8) (w0 := w) w.heap.size (by rfl) (.tmp 48) (.tmp 51) 23 5 (.int .u8 0) 1 rfl Tryd.underlying23 info5 rfl (by decide) (by omega) (.slice Ao46 y244.length co46) y244 t247 _ _ _ (fun k_ => some k_ ≠ (.slice Ao41 t235.length co41 : Value).ownBlock ∧ some k_ ≠ (.slice Ao45 y241.length co45 : Value).ownBlock ∧ some k_ ≠ (.slice Ao52 t247.length co52 : Value).ownBlock ∧ some k_ ≠ (v254 : Value).ownBlock) (fun _ => False) rfl rfl ?aO ?aR (fun _ _ h => h) (fun _ h => h.elim) ?aF ?aB ?aS ?aL ?_
                            (case aR => exact qC (Kd.R_reads' HO249.out).2.2)
                            (case aB => exact (qG GE230.out))
                            (case aF => exact (fun k_ hk => ⟨Kd.fresh' (Kd.R_lt (qR HO237.out)) k_ hk, Kd.fresh' (Kd.R_lt (qR HO243.out)) k_ hk, Kd.fresh' (Kd.R_lt (qR HO249.out)) k_ hk, Kd.fresh' (Kd.R_lt (qR HO255.out)) k_ hk⟩))
                            (case aO => exact (by (with_reducible repeat (first | apply Kd.R_alloc | apply Kd.R_drewN | apply Kd.R_drew)); exact Kd.R_mono HO246.out (fun _ hk => ⟨hk.1.1.1, ⟨hk.1.1.2, ⟨hk.1.2, hk.2⟩⟩⟩)))
                            (case aS => exact (below_size (qG GE230.out)))
                            (case aL => have := LMc31.out; omega)
                            intro v251 w51 ho hb hg hat
                            rw [← Ny250.out] at ho
                            have n0_ := Aside0.mk (blk_grown (g := gb230) (o := .cells #[.int .i64 a0, .int .i64 1, .int .i64 0, .int .i64 1, .int .i64 13] 31 (0, 0)) (qK BK230.out) hg (Kd.R_ne HO246.out BK230.out (by decide)))
                            have n1_ := Aside0.mk (Kd.R_after (ok := (fun k_ => some k_ ≠ (.slice Ao45 y241.length co45 : Value).ownBlock ∧ some k_ ≠ (.slice Ao52 t247.length co52 : Value).ownBlock ∧ some k_ ≠ (v254 : Value).ownBlock)) (by (with_reducible repeat (first | apply Kd.R_alloc | apply Kd.R_drewN | apply Kd.R_drew)); exact Kd.R_mono HO237.out (fun _ hk => ⟨⟨hk.1.1.1, ⟨hk.1.2, hk.2⟩⟩, hk.1.1.2⟩)) hg hat)
                            have n2_ := Aside0.mk (Kd.R_after (ok := (fun k_ => some k_ ≠ (.slice Ao41 t235.length co41 : Value).ownBlock ∧ some k_ ≠ (.slice Ao52 t247.length co52 : Value).ownBlock ∧ some k_ ≠ (v254 : Value).ownBlock)) (by (with_reducible repeat (first | apply Kd.R_alloc | apply Kd.R_drewN | apply Kd.R_drew)); exact Kd.R_mono HO243.out (fun _ hk => ⟨⟨hk.1.1.1, ⟨hk.1.2, hk.2⟩⟩, hk.1.1.2⟩)) hg hat)
                            have n3_ := Aside0.mk (Kd.R_after (ok := (fun k_ => some k_ ≠ (.slice Ao41 t235.length co41 : Value).ownBlock ∧ some k_ ≠ (.slice Ao45 y241.length co45 : Value).ownBlock ∧ some k_ ≠ (v254 : Value).ownBlock)) (by (with_reducible repeat (first | apply Kd.R_alloc | apply Kd.R_drewN | apply Kd.R_drew)); exact Kd.R_mono HO249.out (fun _ hk => ⟨⟨hk.1.1.1.2, ⟨hk.1.1.2, hk.2⟩⟩, hk.1.2⟩)) hg hat)
                            have n4_ := Aside0.mk (Kd.R_after (ok := (fun k_ => some k_ ≠ (.slice Ao41 t235.length co41 : Value).ownBlock ∧ some k_ ≠ (.slice Ao45 y241.length co45 : Value).ownBlock ∧ some k_ ≠ (.slice Ao52 t247.length co52 : Value).ownBlock)) (by (with_reducible repeat (first | apply Kd.R_alloc | apply Kd.R_drewN | apply Kd.R_drew)); exact Kd.R_mono HO255.out (fun _ hk => ⟨⟨hk.1.1.1.2, ⟨hk.1.1.2, hk.2⟩⟩, hk.1.2⟩)) hg hat)
                            have n5_ := Aside0.mk (hb)
                            have n6_ := Aside0.mk (ho)
                            clear BK230
                            clear HO237
                            clear HO243
                            clear HO249
                            clear HO255
                            clear HB
                            clear HO246
                            have BK230 := n0_
                            have HO237 := n1_
                            have HO243 := n2_
                            have HO249 := n3_
                            have HO255 := n4_
                            have HB := n5_
                            have HO252 := n6_
                            clear n0_ n1_ n2_ n3_ n4_ n5_ n6_
                            clear ho hb hg hat
                            refine hK.out _ _ ⟨(blk_cell BK230.out 0).trans rfl, (blk_cell BK230.out 1).trans rfl, (blk_cell BK230.out 2).trans rfl, (blk_cell BK230.out 3).trans rfl, (blk_cell BK230.out 4).trans rfl⟩ (fun hHeld => ?_)
                            clear hK K
                            refine norm_ (a' := ?_) ?_ ?_
                            rotate_left
                            · show Act.put _ (some 52) _ = _
                              simp only [Act.put, List.setIfInBounds_toArray, List.set_cons_zero, List.set_cons_succ, i64_w, i32_w]
                              rfl
                            exact norm_ (by simp only [putAll, Act.put, List.setIfInBounds_toArray, List.set_cons_zero, List.set_cons_succ]) (hCont (.slice Ao52 t247.length co52, v251, v254) _ ⟨hHeld, (by (with_reducible repeat (first | apply Kd.R_alloc | apply Kd.R_drewN | apply Kd.R_drew)); exact Kd.R_mono HO237.out (fun _ hk => ⟨hk.1.1, ⟨hk.1.2.1, ⟨hk.2, hk.1.2.2⟩⟩⟩)), (by (with_reducible repeat (first | apply Kd.R_alloc | apply Kd.R_drewN | apply Kd.R_drew)); exact Kd.R_mono HO243.out (fun _ hk => ⟨hk.1.1, ⟨hk.1.2.1, ⟨hk.2, hk.1.2.2⟩⟩⟩)), (by (with_reducible repeat (first | apply Kd.R_alloc | apply Kd.R_drewN | apply Kd.R_drew)); exact Kd.R_mono HO249.out (fun _ hk => ⟨hk.1.1, ⟨hk.1.2.1, ⟨hk.2, hk.1.2.2⟩⟩⟩)), (qR HO252.out), (by (with_reducible repeat (first | apply Kd.R_alloc | apply Kd.R_drewN | apply Kd.R_drew)); exact Kd.R_mono HO255.out (fun _ hk => ⟨hk.1.1, ⟨hk.1.2.1, ⟨hk.1.2.2, hk.2⟩⟩⟩)), (qK BK230.out), (qG GE230.out)⟩)
                        · skip
                          refine Kd.R_lit_step (Kd.int .u8) _ 5 ?hg (N := 53) ?hd (xs := ([1] : List Int)) (inner := [.int .u8 1]) (ok := fun _ => True) (okp := fun _ => True) ?hr ?hp (fun _ hk => hk) trivial (Below.refl _ _) (Nat.le_refl _) (by simp) ?_; (case hd => rfl); (case hg => rfl); (case hr => first | (go_simp; done) | (go_simp; rfl)); (case hp => exact (Reps.one (show Kd.M (Kd.int .u8) _ _ _ 1 [.int .u8 1] from rfl) (Reps.none _ _)))
                          intro v254 w48 ho49 hb hg_ hnew_
                          clear hg_ hnew_
                          (first | rw [← Ny253.out] at ho49 | (simp only [Int.reduceToNat] at ho49; rw [← Ny253.out] at ho49))
                          have n0_ := Aside0.mk (Kd.R_elder' (qR HO237.out) (Kd.R_base ho49) hb)
                          have n1_ := Aside0.mk (Kd.R_elder' (qR HO243.out) (Kd.R_base ho49) hb)
                          have n2_ := Aside0.mk (Kd.R_elder' (qR HO246.out) (Kd.R_base ho49) hb)
                          have n3_ := Aside0.mk (Kd.R_lower (Kd.R_new' (Kd.R_new' (Kd.R_new' ho49 (Kd.R_lt (qR HO237.out))) (Kd.R_lt (qR HO243.out))) (Kd.R_lt (qR HO246.out))) (below_size (qG GE230.out)))
                          have n4_ := Aside0.mk (blk_below (g := gb230) (o := .cells #[.int .i64 a0, .int .i64 1, .int .i64 0, .int .i64 1, .int .i64 13] 31 (0, 0)) (qK BK230.out) hb)
                          have n5_ := Aside0.mk (below_step (qG GE230.out) hb)
                          clear HO237
                          clear HO243
                          clear HO246
                          clear BK230
                          clear HB
                          have HO237 := n0_
                          have HO243 := n1_
                          have HO246 := n2_
                          have HO255 := n3_
                          have BK230 := n4_
                          have HB := n5_
                          clear n0_ n1_ n2_ n3_ n4_ n5_
                          clear hb ho49
                          refine hK.out _ _ ⟨(blk_cell BK230.out 0).trans rfl, (blk_cell BK230.out 1).trans rfl, (blk_cell BK230.out 2).trans rfl, (blk_cell BK230.out 3).trans rfl, (blk_cell BK230.out 4).trans rfl⟩ (fun hHeld => ?_)
                          clear hK K
                          refine norm_ (a' := ?_) ?_ ?_
                          rotate_left
                          · show Act.put _ (some 53) _ = _
                            simp only [Act.put, List.setIfInBounds_toArray, List.set_cons_zero, List.set_cons_succ, i64_w, i32_w]
                            rfl
                          refine one_ (i := 5) (N := some 51) #[true, true, true, true, true, true, false, true, false, false, false, false, false, false, false] rfl rfl (one_of HT_.out (by kernel_rfl)) (by decide) (fun K hK => ?_)
                          refine goes_ Tryd.func20 (by kernel_rfl) rfl #[.int .u64 (IntKind.u64.wrap (a2)), .int .i64 2, .bool false] (by rfl) rfl rfl qL ?_
                          with_reducible refine (spec_Fixed.calls kj4 (IntKind.u64.wrap (a2)) 2 false t247 _ A30.out).mono ?_
                          rintro e w50 ⟨v248, rfl, ho0, hb⟩
                          refine ⟨_, rfl, ?_⟩
                          have n0_ := Aside0.mk (Kd.R_elder' (qR HO237.out) (Kd.R_base ho0) hb)
                          have n1_ := Aside0.mk (Kd.R_elder' (qR HO243.out) (Kd.R_base ho0) hb)
                          have n2_ := Aside0.mk (Kd.R_elder' (qR HO246.out) (Kd.R_base ho0) hb)
                          have n3_ := Aside0.mk (Kd.R_elder' (qR HO255.out) (Kd.R_base ho0) hb)
                          have n4_ := Aside0.mk (Kd.R_lower (Kd.R_new' (Kd.R_new' (Kd.R_new' (Kd.R_new' ho0 (Kd.R_lt (qR HO237.out))) (Kd.R_lt (qR HO243.out))) (Kd.R_lt (qR HO246.out))) (Kd.R_lt (qR HO255.out))) (below_size (qG GE230.out)))
                          have n5_ := Aside0.mk (blk_below (g := gb230) (o := .cells #[.int .i64 a0, .int .i64 1, .int .i64 0, .int .i64 1, .int .i64 13] 31 (0, 0)) (qK BK230.out) hb)
                          have n6_ := Aside0.mk (below_step (qG GE230.out) hb)
                          clear HO237
                          clear HO243
                          clear HO246
                          clear HO255
                          clear BK230
                          clear HB
                          have HO237 := n0_
                          have HO243 := n1_
                          have HO246 := n2_
                          have HO255 := n3_
                          have HO249 := n4_
                          have BK230 := n5_
                          have HB := n6_
                          clear n0_ n1_ n2_ n3_ n4_ n5_ n6_
                          (try clear hb)
                          (try clear hb2)
                          (try clear hk)
                          (try clear hi)
                          (try clear ho0)
                          obtain ⟨Ao52, co52, eo52⟩ := Kd.R_slice HO249.out
                          (first | subst eo52 | (injection eo52 with f1_ f2_ f3_; have f4_ := f1_.symm; have f5_ := f3_.symm; clear f1_ f2_ f3_; subst f4_; subst f5_))
                          refine hK.out _ _ ⟨(blk_cell BK230.out 0).trans rfl, (blk_cell BK230.out 1).trans rfl, (blk_cell BK230.out 2).trans rfl, (blk_cell BK230.out 3).trans rfl, (blk_cell BK230.out 4).trans rfl⟩ (fun hHeld => ?_)
                          clear hK K
                          refine norm_ (a' := ?_) ?_ ?_
                          rotate_left
                          · show Act.put _ (some 51) _ = _
                            simp only [Act.put, List.setIfInBounds_toArray, List.set_cons_zero, List.set_cons_succ, i64_w, i32_w]
                            rfl
                          refine one_ (i := 6) (N := some 52) #[true, true, true, true, true, true, true, true, false, false, false, false, false, false, false] rfl rfl (one_of HT_.out (by kernel_rfl)) (by decide) (fun K hK => ?_)
                          refine Kd.R_append_rows_step (Kd.int .u8) (w0 := w) w.heap.size (by rfl) (.tmp 48) (.tmp 51) 23 5 (.int .u8 0) 1 rfl Tryd.underlying23 info5 rfl (by decide) (by omega) (.slice Ao46 y244.length co46) y244 t247 _ _ _ (fun k_ => some k_ ≠ (.slice Ao41 t235.length co41 : Value).ownBlock ∧ some k_ ≠ (.slice Ao45 y241.length co45 : Value).ownBlock ∧ some k_ ≠ (v254 : Value).ownBlock ∧ some k_ ≠ (.slice Ao52 t247.length co52 : Value).ownBlock) (fun _ => False) rfl rfl ?aO ?aR (fun _ _ h => h) (fun _ h => h.elim) ?aF ?aB ?aS ?aL ?_
                          (case aR => exact qC (Kd.R_reads' HO249.out).2.2)
                          (case aB => exact (qG GE230.out))
                          (case aF => exact (fun k_ hk => ⟨Kd.fresh' (Kd.R_lt (qR HO237.out)) k_ hk, Kd.fresh' (Kd.R_lt (qR HO243.out)) k_ hk, Kd.fresh' (Kd.R_lt (qR HO255.out)) k_ hk, Kd.fresh' (Kd.R_lt (qR HO249.out)) k_ hk⟩))
                          (case aO => exact (by (with_reducible repeat (first | apply Kd.R_alloc | apply Kd.R_drewN | apply Kd.R_drew)); exact Kd.R_mono HO246.out (fun _ hk => ⟨hk.1.1.1, ⟨hk.1.1.2, ⟨hk.1.2, hk.2⟩⟩⟩)))
                          (case aS => exact (below_size (qG GE230.out)))
                          (case aL => have := LMc31.out; omega)
                          intro v251 w51 ho hb hg hat
                          rw [← Ny250.out] at ho
                          have n0_ := Aside0.mk (blk_grown (g := gb230) (o := .cells #[.int .i64 a0, .int .i64 1, .int .i64 0, .int .i64 1, .int .i64 13] 31 (0, 0)) (qK BK230.out) hg (Kd.R_ne HO246.out BK230.out (by decide)))
                          have n1_ := Aside0.mk (Kd.R_after (ok := (fun k_ => some k_ ≠ (.slice Ao45 y241.length co45 : Value).ownBlock ∧ some k_ ≠ (v254 : Value).ownBlock ∧ some k_ ≠ (.slice Ao52 t247.length co52 : Value).ownBlock)) (by (with_reducible repeat (first | apply Kd.R_alloc | apply Kd.R_drewN | apply Kd.R_drew)); exact Kd.R_mono HO237.out (fun _ hk => ⟨⟨hk.1.1.1, ⟨hk.1.2, hk.2⟩⟩, hk.1.1.2⟩)) hg hat)
                          have n2_ := Aside0.mk (Kd.R_after (ok := (fun k_ => some k_ ≠ (.slice Ao41 t235.length co41 : Value).ownBlock ∧ some k_ ≠ (v254 : Value).ownBlock ∧ some k_ ≠ (.slice Ao52 t247.length co52 : Value).ownBlock)) (by (with_reducible repeat (first | apply Kd.R_alloc | apply Kd.R_drewN | apply Kd.R_drew)); exact Kd.R_mono HO243.out (fun _ hk => ⟨⟨hk.1.1.1, ⟨hk.1.2, hk.2⟩⟩, hk.1.1.2⟩)) hg hat)
                          have n3_ := Aside0.mk (Kd.R_after (ok := (fun k_ => some k_ ≠ (.slice Ao41 t235.length co41 : Value).ownBlock ∧ some k_ ≠ (.slice Ao45 y241.length co45 : Value).ownBlock ∧ some k_ ≠ (.slice Ao52 t247.length co52 : Value).ownBlock)) (by (with_reducible repeat (first | apply Kd.R_alloc | apply Kd.R_drewN | apply Kd.R_drew)); exact Kd.R_mono HO255.out (fun _ hk => ⟨⟨hk.1.1.1.2, ⟨hk.1.1.2, hk.2⟩⟩, hk.1.2⟩)) hg hat)
                          have n4_ := Aside0.mk (Kd.R_after (ok := (fun k_ => some k_ ≠ (.slice Ao41 t235.length co41 : Value).ownBlock ∧ some k_ ≠ (.slice Ao45 y241.length co45 : Value).ownBlock ∧ some k_ ≠ (v254 : Value).ownBlock)) (by (with_reducible repeat (first | apply Kd.R_alloc | apply Kd.R_drewN | apply Kd.R_drew)); exact Kd.R_mono HO249.out (fun _ hk => ⟨⟨hk.1.1.1.2, ⟨hk.1.1.2, hk.2⟩⟩, hk.1.2⟩)) hg hat)
                          have n5_ := Aside0.mk (hb)
                          have n6_ := Aside0.mk (ho)
                          clear BK230
                          clear HO237
                          clear HO243
                          clear HO255
                          clear HO249
                          clear HB
                          clear HO246
                          have BK230 := n0_
                          have HO237 := n1_
                          have HO243 := n2_
                          have HO255 := n3_
                          have HO249 := n4_
                          have HB := n5_
                          have HO252 := n6_
                          clear n0_ n1_ n2_ n3_ n4_ n5_ n6_
                          clear ho hb hg hat
                          refine hK.out _ _ ⟨(blk_cell BK230.out 0).trans rfl, (blk_cell BK230.out 1).trans rfl, (blk_cell BK230.out 2).trans rfl, (blk_cell BK230.out 3).trans rfl, (blk_cell BK230.out 4).trans rfl⟩ (fun hHeld => ?_)
                          clear hK K
                          refine norm_ (a' := ?_) ?_ ?_
                          rotate_left
                          · show Act.put _ (some 52) _ = _
                            simp only [Act.put, List.setIfInBounds_toArray, List.set_cons_zero, List.set_cons_succ, i64_w, i32_w]
                            rfl
                          exact norm_ (by simp only [putAll, Act.put, List.setIfInBounds_toArray, List.set_cons_zero, List.set_cons_succ]) (hCont (.slice Ao52 t247.length co52, v251, v254) _ ⟨hHeld, (by (with_reducible repeat (first | apply Kd.R_alloc | apply Kd.R_drewN | apply Kd.R_drew)); exact Kd.R_mono HO237.out (fun _ hk => ⟨hk.1.1, ⟨hk.1.2.2, ⟨hk.2, hk.1.2.1⟩⟩⟩)), (by (with_reducible repeat (first | apply Kd.R_alloc | apply Kd.R_drewN | apply Kd.R_drew)); exact Kd.R_mono HO243.out (fun _ hk => ⟨hk.1.1, ⟨hk.1.2.2, ⟨hk.2, hk.1.2.1⟩⟩⟩)), (by (with_reducible repeat (first | apply Kd.R_alloc | apply Kd.R_drewN | apply Kd.R_drew)); exact Kd.R_mono HO249.out (fun _ hk => ⟨hk.1.1, ⟨hk.1.2.1, ⟨hk.2, hk.1.2.2⟩⟩⟩)), (by (with_reducible repeat (first | apply Kd.R_alloc | apply Kd.R_drewN | apply Kd.R_drew)); exact Kd.R_mono HO252.out (fun _ hk => ⟨hk.1, ⟨hk.2.1, ⟨hk.2.2.2, hk.2.2.1⟩⟩⟩)), (by (with_reducible repeat (first | apply Kd.R_alloc | apply Kd.R_drewN | apply Kd.R_drew)); exact Kd.R_mono HO255.out (fun _ hk => ⟨hk.1.1, ⟨hk.1.2.1, ⟨hk.1.2.2, hk.2⟩⟩⟩)), (qK BK230.out), (qG GE230.out)⟩)
                      rintro ⟨v248, v251, v254⟩ w53 ⟨hS_, h0_, h1_, h2_, h3_, h4_, h5_, h6_⟩
                      have n0_ : Aside0 (Kd.R (Kd.int .u8) 5 w53 w.heap.size (fun k_ => some k_ ≠ (.slice Ao45 y241.length co45 : Value).ownBlock ∧ some k_ ≠ (v248 : Value).ownBlock ∧ some k_ ≠ (v251 : Value).ownBlock ∧ some k_ ≠ (v254 : Value).ownBlock) (.slice Ao41 t235.length co41) t235) := ⟨h0_⟩
                      have n1_ : Aside0 (Kd.R (Kd.int .u8) 5 w53 w.heap.size (fun k_ => some k_ ≠ (.slice Ao41 t235.length co41 : Value).ownBlock ∧ some k_ ≠ (v248 : Value).ownBlock ∧ some k_ ≠ (v251 : Value).ownBlock ∧ some k_ ≠ (v254 : Value).ownBlock) (.slice Ao45 y241.length co45) y241) := ⟨h1_⟩
                      have n2_ : Aside0 (Kd.R (Kd.int .u8) 5 w53 w.heap.size (fun k_ => some k_ ≠ (.slice Ao41 t235.length co41 : Value).ownBlock ∧ some k_ ≠ (.slice Ao45 y241.length co45 : Value).ownBlock ∧ some k_ ≠ (v251 : Value).ownBlock ∧ some k_ ≠ (v254 : Value).ownBlock) v248 t247) := ⟨h2_⟩
                      have n3_ : Aside0 (Kd.R (Kd.int .u8) 5 w53 w.heap.size (fun k_ => some k_ ≠ (.slice Ao41 t235.length co41 : Value).ownBlock ∧ some k_ ≠ (.slice Ao45 y241.length co45 : Value).ownBlock ∧ some k_ ≠ (v248 : Value).ownBlock ∧ some k_ ≠ (v254 : Value).ownBlock) v251 y250) := ⟨h3_⟩
                      have n4_ : Aside0 (Kd.R (Kd.int .u8) 5 w53 w.heap.size (fun k_ => some k_ ≠ (.slice Ao41 t235.length co41 : Value).ownBlock ∧ some k_ ≠ (.slice Ao45 y241.length co45 : Value).ownBlock ∧ some k_ ≠ (v248 : Value).ownBlock ∧ some k_ ≠ (v251 : Value).ownBlock) v254 y253) := ⟨h4_⟩
                      have n5_ : Aside0 (w53.heap[gb230]? = some (.cells #[.int .i64 a0, .int .i64 1, .int .i64 0, .int .i64 1, .int .i64 13] 31 (0, 0))) := ⟨h5_⟩
                      have n6_ : Aside0 (Below w.heap.size w w53) := ⟨h6_⟩
                      clear HO237
                      clear HO243
                      clear HO246
                      clear BK230
                      clear HB
                      clear h0_ h1_ h2_ h3_ h4_ h5_ h6_
                      have HO237 := n0_
                      have HO243 := n1_
                      have HO249 := n2_
                      have HO252 := n3_
                      have HO255 := n4_
                      have BK230 := n5_
                      have HB := n6_
                      clear n0_ n1_ n2_ n3_ n4_ n5_ n6_
                      have hHeld : w53.cell? ⟨gb230, 0, none⟩ = some (.int .i64 a0) ∧ w53.cell? ⟨gb230, 1, none⟩ = some (.int .i64 1) ∧ w53.cell? ⟨gb230, 2, none⟩ = some (.int .i64 0) ∧ w53.cell? ⟨gb230, 3, none⟩ = some (.int .i64 1) ∧ w53.cell? ⟨gb230, 4, none⟩ = some (.int .i64 13) := hS_
                      obtain ⟨Ao55, co55, eo55⟩ := Kd.R_slice HO255.out
                      (first | subst eo55 | (injection eo55 with f1_ f2_ f3_; have f4_ := f1_.symm; have f5_ := f3_.symm; clear f1_ f2_ f3_; subst f4_; subst f5_))
                      refine norm_ (a' := ?_) ?_ ?_
                      rotate_left
                      · simp only [putAll, Act.put, List.setIfInBounds_toArray, List.set_cons_zero, List.set_cons_succ]
                        rfl
                      refine one_ (i := 8) (N := some 54) #[true, true, true, true, true, true, true, true, true, false, false, false, false, false, false] rfl rfl (one_of HT_.out (by kernel_rfl)) (by decide) (fun K hK => ?_)
                      refine Kd.R_append_rows_step (Kd.int .u8) (w0 := w) w.heap.size (by rfl) (.tmp 52) (.tmp 53) 23 5 (.int .u8 0) 1 rfl Tryd.underlying23 info5 rfl (by decide) (by omega) v251 y250 y253 _ _ _ (fun k_ => some k_ ≠ (.slice Ao41 t235.length co41 : Value).ownBlock ∧ some k_ ≠ (.slice Ao45 y241.length co45 : Value).ownBlock ∧ some k_ ≠ (v248 : Value).ownBlock ∧ some k_ ≠ (.slice Ao55 y253.length co55 : Value).ownBlock) (fun _ => False) rfl rfl ?aO ?aR (fun _ _ h => h) (fun _ h => h.elim) ?aF ?aB ?aS ?aL ?_
                      (case aR => exact qC (Kd.R_reads' HO255.out).2.2)
                      (case aB => exact (qG GE230.out))
                      (case aF => exact (fun k_ hk => ⟨Kd.fresh' (Kd.R_lt (qR HO237.out)) k_ hk, Kd.fresh' (Kd.R_lt (qR HO243.out)) k_ hk, Kd.fresh' (Kd.R_lt (qR HO249.out)) k_ hk, Kd.fresh' (Kd.R_lt (qR HO255.out)) k_ hk⟩))
                      (case aO => exact (qR HO252.out))
                      (case aS => exact (below_size (qG GE230.out)))
                      (case aL => have := LMc32.out; omega)
                      intro v257 w54 ho hb hg hat
                      rw [← Ny256.out] at ho
                      have n0_ := Aside0.mk (blk_grown (g := gb230) (o := .cells #[.int .i64 a0, .int .i64 1, .int .i64 0, .int .i64 1, .int .i64 13] 31 (0, 0)) (qK BK230.out) hg (Kd.R_ne HO252.out BK230.out (by decide)))
                      have n1_ := Aside0.mk (Kd.R_after (ok := (fun k_ => some k_ ≠ (.slice Ao45 y241.length co45 : Value).ownBlock ∧ some k_ ≠ (v248 : Value).ownBlock ∧ some k_ ≠ (.slice Ao55 y253.length co55 : Value).ownBlock)) (by (with_reducible repeat (first | apply Kd.R_alloc | apply Kd.R_drewN | apply Kd.R_drew)); exact Kd.R_mono HO237.out (fun _ hk => ⟨⟨hk.1, ⟨hk.2.1, hk.2.2.2⟩⟩, hk.2.2.1⟩)) hg hat)
                      have n2_ := Aside0.mk (Kd.R_after (ok := (fun k_ => some k_ ≠ (.slice Ao41 t235.length co41 : Value).ownBlock ∧ some k_ ≠ (v248 : Value).ownBlock ∧ some k_ ≠ (.slice Ao55 y253.length co55 : Value).ownBlock)) (by (with_reducible repeat (first | apply Kd.R_alloc | apply Kd.R_drewN | apply Kd.R_drew)); exact Kd.R_mono HO243.out (fun _ hk => ⟨⟨hk.1, ⟨hk.2.1, hk.2.2.2⟩⟩, hk.2.2.1⟩)) hg hat)
                      have n3_ := Aside0.mk (Kd.R_after (ok := (fun k_ => some k_ ≠ (.slice Ao41 t235.length co41 : Value).ownBlock ∧ some k_ ≠ (.slice Ao45 y241.length co45 : Value).ownBlock ∧ some k_ ≠ (.slice Ao55 y253.length co55 : Value).ownBlock)) (by (with_reducible repeat (first | apply Kd.R_alloc | apply Kd.R_drewN | apply Kd.R_drew)); exact Kd.R_mono HO249.out (fun _ hk => ⟨⟨hk.1, ⟨hk.2.1, hk.2.2.2⟩⟩, hk.2.2.1⟩)) hg hat)
                      have n4_ := Aside0.mk (Kd.R_after (ok := (fun k_ => some k_ ≠ (.slice Ao41 t235.length co41 : Value).ownBlock ∧ some k_ ≠ (.slice Ao45 y241.length co45 : Value).ownBlock ∧ some k_ ≠ (v248 : Value).ownBlock)) (by (with_reducible repeat (first | apply Kd.R_alloc | apply Kd.R_drewN | apply Kd.R_drew)); exact Kd.R_mono HO255.out (fun _ hk => ⟨⟨hk.1, ⟨hk.2.1, hk.2.2.1⟩⟩, hk.2.2.2⟩)) hg hat)
                      have n5_ := Aside0.mk (hb)
                      have n6_ := Aside0.mk (ho)
                      clear BK230
                      clear HO237
                      clear HO243
                      clear HO249
                      clear HO255
                      clear HB
                      clear HO252
                      have BK230 := n0_
                      have HO237 := n1_
                      have HO243 := n2_
                      have HO249 := n3_
                      have HO255 := n4_
                      have HB := n5_
                      have HO258 := n6_
                      clear n0_ n1_ n2_ n3_ n4_ n5_ n6_
                      clear ho hb hg hat
                      obtain ⟨Ao56, co56, eo56⟩ := Kd.R_slice HO258.out
                      (first | subst eo56 | (injection eo56 with f1_ f2_ f3_; have f4_ := f1_.symm; have f5_ := f3_.symm; clear f1_ f2_ f3_; subst f4_; subst f5_))
                      refine hK.out _ _ ⟨(blk_cell BK230.out 0).trans rfl, (blk_cell BK230.out 1).trans rfl, (blk_cell BK230.out 2).trans rfl, (blk_cell BK230.out 3).trans rfl, (blk_cell BK230.out 4).trans rfl⟩ (fun hHeld => ?_)
                      clear hK K
                      refine norm_ (a' := ?_) ?_ ?_
                      rotate_left
                      · show Act.put _ (some 54) _ = _
                        simp only [Act.put, List.setIfInBounds_toArray, List.set_cons_zero, List.set_cons_succ, i64_w, i32_w]
                        rfl
                      refine one_ (i := 9) (N := some 55) #[true, true, true, true, true, true, true, true, true, true, false, false, false, false, false] rfl rfl (one_of HT_.out (by kernel_rfl)) (by decide) (fun K hK => ?_)
                      refine goes_ Tryd.func19 (by kernel_rfl) rfl #[.agg #[.int .i64 a0, .int .i64 1, .int .i64 0, .int .i64 1, .int .i64 13], .int .u64 a3, .slice Ao56 y256.length co56, .int .i64 2] (by rfl) rfl rfl qL ?_
                      with_reducible refine (laws_rowsOf.calls kj4 a0 1 0 1 13 a3 _ _ y256 2 t259 true _ ?side1 ?side2 A33.out ?sideG).mono ?_
                      (case sideG => exact HGL.out.below (qG GE230.out))
                      (case side1 => exact qC (Kd.R_reads' HO258.out).2.2)
                      (case side2 => exact (Kd.R_reads' HO258.out).2.1)
                      rintro e w57 ⟨v260, rfl, ho0, hb⟩
                      refine ⟨_, rfl, ?_⟩
                      have n0_ := Aside0.mk (Kd.R_below (qR HO237.out) hb)
                      have n1_ := Aside0.mk (Kd.R_below (qR HO243.out) hb)
                      have n2_ := Aside0.mk (Kd.R_below (qR HO249.out) hb)
                      have n3_ := Aside0.mk (Kd.R_below (qR HO255.out) hb)
                      have n4_ := Aside0.mk (Kd.R_below (qR HO258.out) hb)
                      have n5_ := Aside0.mk (Kd.R_lower ho0 (below_size (qG GE230.out)))
                      have n6_ := Aside0.mk (blk_below (g := gb230) (o := .cells #[.int .i64 a0, .int .i64 1, .int .i64 0, .int .i64 1, .int .i64 13] 31 (0, 0)) (qK BK230.out) hb)
                      have n7_ := Aside0.mk (below_step (qG GE230.out) hb)
                      clear HO237
                      clear HO243
                      clear HO249
                      clear HO255
                      clear HO258
                      clear BK230
                      clear HB
                      have HO237 := n0_
                      have HO243 := n1_
                      have HO249 := n2_
                      have HO255 := n3_
                      have HO258 := n4_
                      have HO261 := n5_
                      have BK230 := n6_
                      have HB := n7_
                      clear n0_ n1_ n2_ n3_ n4_ n5_ n6_ n7_
                      (try clear hb)
                      (try clear hb2)
                      (try clear hk)
                      (try clear hi)
                      (try clear ho0)
                      refine hK.out _ _ ⟨(blk_cell BK230.out 0).trans rfl, (blk_cell BK230.out 1).trans rfl, (blk_cell BK230.out 2).trans rfl, (blk_cell BK230.out 3).trans rfl, (blk_cell BK230.out 4).trans rfl⟩ (fun hHeld => ?_)
                      clear hK K
                      refine norm_ (a' := ?_) ?_ ?_
                      rotate_left
                      · show Act.put _ (some 55) _ = _
                        simp only [Act.put, List.setIfInBounds_toArray, List.set_cons_zero, List.set_cons_succ, i64_w, i32_w]
                        rfl
                      refine pure_ (i := 10) (N := some 45) (v := ?_) (a' := ?_) #[true, true, true, true, true, true, true, true, true, true, true, false, false, false, false] rfl rfl (any_of HT_.out (by kernel_rfl)) (fun _ _ _ h => h) (Or.inl ⟨by rfl, ?_⟩) ?_ ?_
                      rotate_left
                      · intro w'
                        go_simp
                        with_reducible rfl
                      rotate_left
                      · simp only [Act.put, List.setIfInBounds_toArray, List.set_cons_zero, List.set_cons_succ, i64_w, i32_w]
                        rfl
                      refine pure_ (i := 11) (N := some 56) (v := ?_) (a' := ?_) #[true, true, true, true, true, true, true, true, true, true, true, true, false, false, false] rfl rfl (any_of HT_.out (by kernel_rfl)) (fun _ _ _ h => h) (Or.inl ⟨by rfl, ?_⟩) ?_ ?_
                      rotate_left
                      · intro w'
                        go_simp
                        with_reducible rfl
                      rotate_left
                      · simp only [Act.put, List.setIfInBounds_toArray, List.set_cons_zero, List.set_cons_succ, i64_w, i32_w]
                        rfl
                      refine pure_ (i := 12) (N := some 57) (v := ?_) (a' := ?_) #[true, true, true, true, true, true, true, true, true, true, true, true, true, false, false] rfl rfl (any_of HT_.out (by kernel_rfl)) (fun _ _ _ h => h) (Or.inl ⟨by rfl, ?_⟩) ?_ ?_
                      rotate_left
                      · intro w'
                        go_simp
                        with_reducible rfl
                      rotate_left
                      · simp only [Act.put, List.setIfInBounds_toArray, List.set_cons_zero, List.set_cons_succ, i64_w, i32_w]
                        rfl
                      refine pure_ (i := 13) (N := some 11) (v := ?_) (a' := ?_) #[true, true, true, true, true, true, true, true, true, true, true, true, true, true, false] rfl rfl (any_of HT_.out (by kernel_rfl)) (fun _ _ _ h => h) (Or.inl ⟨by rfl, ?_⟩) ?_ ?_
                      rotate_left
                      · intro w'
                        go_simp
                        with_reducible rfl
                      rotate_left
                      · simp only [Act.put, List.setIfInBounds_toArray, List.set_cons_zero, List.set_cons_succ, i64_w, i32_w]
                        rfl
                      refine pure_ (i := 14) (N := some 12) (v := ?_) (a' := ?_) #[true, true, true, true, true, true, true, true, true, true, true, true, true, true, true] rfl rfl (any_of HT_.out (by kernel_rfl)) (fun _ _ _ h => h) (Or.inl ⟨by rfl, ?_⟩) ?_ ?_
                      rotate_left
                      · intro w'
                        go_simp
                        with_reducible rfl
                      rotate_left
                      · simp only [Act.put, List.setIfInBounds_toArray, List.set_cons_zero, List.set_cons_succ, i64_w, i32_w]
                        rfl
                      refine done_ (done_of HT_.out (by kernel_rfl)) ?_
                      obtain ⟨Ao58, co58, eo58⟩ := Kd.R_slice HO261.out
                      subst eo58
                      have p263 : 0 ≤ (0 : Int) := (by omega)
                      have q263 : 0 < (t259.length : Int) := of_decide_eq_true qA
                      obtain ⟨ad263, e263, hx263_0, hx263_1, hx263_2, hx263_3, hx263_4, hx263_5, hx263_6, hx263_7, hx263_8, hx263_9, hx263_10, hx263_11, hx263_12, hx263_13, hx263_14⟩ := at_T38 (Kd.R_reads' HO261.out).2.2 0 p263 q263
                      cases e263
                      have qi263 : (0 < t259.length) = True := eq_true (by omega)
                      (try rw [show ((0 : Int)).toNat = 0 from rfl] at hx263_0)
                      (try rw [show 0 * 15 = 0 from rfl] at hx263_0)
                      (try rw [Addr.add_zero'] at hx263_0)
                      (try rw [show ((0 : Int)).toNat = 0 from rfl] at hx263_1)
                      (try rw [show 0 * 15 = 0 from rfl] at hx263_1)
                      (try rw [Addr.add_zero'] at hx263_1)
                      (try rw [show ((0 : Int)).toNat = 0 from rfl] at hx263_2)
                      (try rw [show 0 * 15 = 0 from rfl] at hx263_2)
                      (try rw [Addr.add_zero'] at hx263_2)
                      (try rw [show ((0 : Int)).toNat = 0 from rfl] at hx263_3)
                      (try rw [show 0 * 15 = 0 from rfl] at hx263_3)
                      (try rw [Addr.add_zero'] at hx263_3)
                      (try rw [show ((0 : Int)).toNat = 0 from rfl] at hx263_4)
                      (try rw [show 0 * 15 = 0 from rfl] at hx263_4)
                      (try rw [Addr.add_zero'] at hx263_4)
                      (try rw [show ((0 : Int)).toNat = 0 from rfl] at hx263_5)
                      (try rw [show 0 * 15 = 0 from rfl] at hx263_5)
                      (try rw [Addr.add_zero'] at hx263_5)
                      (try rw [show ((0 : Int)).toNat = 0 from rfl] at hx263_6)
                      (try rw [show 0 * 15 = 0 from rfl] at hx263_6)
                      (try rw [Addr.add_zero'] at hx263_6)
                      (try rw [show ((0 : Int)).toNat = 0 from rfl] at hx263_7)
                      (try rw [show 0 * 15 = 0 from rfl] at hx263_7)
                      (try rw [Addr.add_zero'] at hx263_7)
                      (try rw [show ((0 : Int)).toNat = 0 from rfl] at hx263_8)
                      (try rw [show 0 * 15 = 0 from rfl] at hx263_8)
                      (try rw [Addr.add_zero'] at hx263_8)
                      (try rw [show ((0 : Int)).toNat = 0 from rfl] at hx263_9)
                      (try rw [show 0 * 15 = 0 from rfl] at hx263_9)
                      (try rw [Addr.add_zero'] at hx263_9)
                      (try rw [show ((0 : Int)).toNat = 0 from rfl] at hx263_10)
                      (try rw [show 0 * 15 = 0 from rfl] at hx263_10)
                      (try rw [Addr.add_zero'] at hx263_10)
                      (try rw [show ((0 : Int)).toNat = 0 from rfl] at hx263_11)
                      (try rw [show 0 * 15 = 0 from rfl] at hx263_11)
                      (try rw [Addr.add_zero'] at hx263_11)
                      (try rw [show ((0 : Int)).toNat = 0 from rfl] at hx263_12)
                      (try rw [show 0 * 15 = 0 from rfl] at hx263_12)
                      (try rw [Addr.add_zero'] at hx263_12)
                      (try rw [show ((0 : Int)).toNat = 0 from rfl] at hx263_13)
                      (try rw [show 0 * 15 = 0 from rfl] at hx263_13)
                      (try rw [Addr.add_zero'] at hx263_13)
                      (try rw [show ((0 : Int)).toNat = 0 from rfl] at hx263_14)
                      (try rw [show 0 * 15 = 0 from rfl] at hx263_14)
                      (try rw [Addr.add_zero'] at hx263_14)
                      replace p263 := eq_true p263
                      replace q263 := eq_true q263
                      have p264 : 0 ≤ (0 : Int) := (by omega)
                      have q264 : 0 < (t259.length : Int) := of_decide_eq_true qA
                      obtain ⟨ad264, e264, hx264_0, hx264_1, hx264_2, hx264_3, hx264_4, hx264_5, hx264_6, hx264_7, hx264_8, hx264_9, hx264_10, hx264_11, hx264_12, hx264_13, hx264_14⟩ := at_T38 (Kd.R_reads' HO261.out).2.2 0 p264 q264
                      obtain rfl : ad263 = ad264 := (by injection e264)
                      have qi264 : (0 < t259.length) = True := eq_true (by omega)
                      (try rw [show ((0 : Int)).toNat = 0 from rfl] at hx264_0)
                      (try rw [show 0 * 15 = 0 from rfl] at hx264_0)
                      (try rw [Addr.add_zero'] at hx264_0)
                      (try rw [show ((0 : Int)).toNat = 0 from rfl] at hx264_1)
                      (try rw [show 0 * 15 = 0 from rfl] at hx264_1)
                      (try rw [Addr.add_zero'] at hx264_1)
                      (try rw [show ((0 : Int)).toNat = 0 from rfl] at hx264_2)
                      (try rw [show 0 * 15 = 0 from rfl] at hx264_2)
                      (try rw [Addr.add_zero'] at hx264_2)
                      (try rw [show ((0 : Int)).toNat = 0 from rfl] at hx264_3)
                      (try rw [show 0 * 15 = 0 from rfl] at hx264_3)
                      (try rw [Addr.add_zero'] at hx264_3)
                      (try rw [show ((0 : Int)).toNat = 0 from rfl] at hx264_4)
                      (try rw [show 0 * 15 = 0 from rfl] at hx264_4)
                      (try rw [Addr.add_zero'] at hx264_4)
                      (try rw [show ((0 : Int)).toNat = 0 from rfl] at hx264_5)
                      (try rw [show 0 * 15 = 0 from rfl] at hx264_5)
                      (try rw [Addr.add_zero'] at hx264_5)
                      (try rw [show ((0 : Int)).toNat = 0 from rfl] at hx264_6)
                      (try rw [show 0 * 15 = 0 from rfl] at hx264_6)
                      (try rw [Addr.add_zero'] at hx264_6)
                      (try rw [show ((0 : Int)).toNat = 0 from rfl] at hx264_7)
                      (try rw [show 0 * 15 = 0 from rfl] at hx264_7)
                      (try rw [Addr.add_zero'] at hx264_7)
                      (try rw [show ((0 : Int)).toNat = 0 from rfl] at hx264_8)
                      (try rw [show 0 * 15 = 0 from rfl] at hx264_8)
                      (try rw [Addr.add_zero'] at hx264_8)
                      (try rw [show ((0 : Int)).toNat = 0 from rfl] at hx264_9)
                      (try rw [show 0 * 15 = 0 from rfl] at hx264_9)
                      (try rw [Addr.add_zero'] at hx264_9)
                      (try rw [show ((0 : Int)).toNat = 0 from rfl] at hx264_10)
                      (try rw [show 0 * 15 = 0 from rfl] at hx264_10)
                      (try rw [Addr.add_zero'] at hx264_10)
                      (try rw [show ((0 : Int)).toNat = 0 from rfl] at hx264_11)
                      (try rw [show 0 * 15 = 0 from rfl] at hx264_11)
                      (try rw [Addr.add_zero'] at hx264_11)
                      (try rw [show ((0 : Int)).toNat = 0 from rfl] at hx264_12)
                      (try rw [show 0 * 15 = 0 from rfl] at hx264_12)
                      (try rw [Addr.add_zero'] at hx264_12)
                      (try rw [show ((0 : Int)).toNat = 0 from rfl] at hx264_13)
                      (try rw [show 0 * 15 = 0 from rfl] at hx264_13)
                      (try rw [Addr.add_zero'] at hx264_13)
                      (try rw [show ((0 : Int)).toNat = 0 from rfl] at hx264_14)
                      (try rw [show 0 * 15 = 0 from rfl] at hx264_14)
                      (try rw [Addr.add_zero'] at hx264_14)
                      replace p264 := eq_true p264
                      replace q264 := eq_true q264
                      try go_wp2
                      go_ret
                      exact ⟨by first | rfl | (simp [errW_none, errW_some] <;> rfl) | (simp [*, errW_none, errW_some] <;> rfl), by repeat (first | (with_reducible first | exact HB.out | apply below_alloc | apply pw_below_drewN | apply below_drew1 | refine below_set ?_ GE230.out) | exact HB.out)⟩
                    · rw [if_neg c36] at H
                      have c36b0 : (((rd_T38 t259 0).f1) == 0) = false := beq_eq_false_iff_ne.mpr c36
                      have c36b1 : (((rd_T38 t259 0).f1) != 0) = true := bne_iff_ne.mpr c36
                      exact absurd (Option.some.inj H) (by rw [HRT.out]; decide)
                  · rw [if_neg c35] at H
                    exact absurd H (by simp)
                · replace c34 := Bool.eq_false_iff.mpr c34
                  subst c34
                  have H1 : (some false) = some r := by rw [if_neg (show ¬ (false = true) by decide)] at H; exact H
                  clear H
                  have H := H1
                  clear H1
                  exact absurd (Option.some.inj H) (by rw [HRT.out]; decide)
              · rw [if_neg c32] at H
                exact absurd H (by simp)
            · rw [if_neg c31] at H
              exact absurd H (by simp)
          · rw [if_neg c29] at H
            exact absurd H (by simp)
        · rw [if_neg c28] at H
          exact absurd H (by simp)

/-- THE ONE PURE STATEMENT of laws_FnLineFixed: yours. -/
def laws_FnLineFixed.Pure : Prop := ∀ (a0 : Int) (a1 : Int) (a2 : Int) (a3 : Int), (Lit.int .i64 a0).wf = true → (Lit.int .i64 a1).wf = true → (Lit.int .i64 a2).wf = true → (Lit.int .u64 a3).wf = true → ∃ k, laws_FnLineFixed.f k a0 a1 a2 a3 = some true
theorem laws_FnLineFixed.walk (P : laws_FnLineFixed.Pure) (a0 : Int) (a1 : Int) (a2 : Int) (a3 : Int) (w : World) (w0 : (Lit.int .i64 a0).wf = true) (w1 : (Lit.int .i64 a1).wf = true) (w2 : (Lit.int .i64 a2).wf = true) (w3 : (Lit.int .u64 a3).wf = true) (hG : Glob w) :
    Calls Tryd.prog 4 #[.int .i64 a0, .int .i64 a1, .int .i64 a2, .int .u64 a3] w fun e w' => e = .returned (.bool true) ∧ Below w.heap.size w w' := by
  obtain ⟨k, h⟩ := P a0 a1 a2 a3 w0 w1 w2 w3
  refine (laws_FnLineFixed.calls k a0 a1 a2 a3 true w h hG rfl).mono ?_
  rintro e w' ⟨rfl, hd⟩
  exact ⟨rfl, hd⟩
end Go.Proofs.YtnooghnbohjmlaaDoor.PPl
