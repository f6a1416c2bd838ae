import Derived.Test.YtnooghnbohjmlaaDoorWTab
import Derived.Test.YtnooghnbohjmlaaDoorMa
import Derived.Test.YtnooghnbohjmlaaDoorMc
import Derived.Test.YtnooghnbohjmlaaDoorRightH
namespace Go.Proofs.YtnooghnbohjmlaaDoor.PPl
open Go.RowKit Go.Proofs.YtnooghnbohjmlaaDoorW.PrintWords Go.Proofs.YtnooghnbohjmlaaDoorW.PrintLast Go.Proofs.YtnooghnbohjmlaaDoorW.PrintMore
attribute [local go_sem] max2_int max_two
set_option linter.unusedVariables false
set_option linter.unusedSimpArgs false
def laws_FnLineOperations.j0 : Nat → Int → Int → Int → Int → Int → Int → Bool → Int → Int → Int → Int → Int → Option (Bool)
  | 0, _, _, _, _, _, _, _, _, _, _, _, _ => none
  | k + 1, x0, x1, x2, x3, x4, x5, x41, x194000, x194001, x194002, x194003, x194004 => if x41 = true then (some true) else (if x2 = 0 then (none) else (if x0 = 0 then (none) else ((some (([2] : List Int) : List Int)).bind fun y195 => ((spec_Unsigned.f k (IntKind.u64.wrap (x4)) 0).bind fun t198 => (if y195.length + t198.length < 140737488355328 then ((some (y195 ++ t198 : List Int)).bind fun y201 => ((some (([8, 1] : List Int) : List Int)).bind fun y204 => (if y201.length + y204.length < 140737488355328 then ((laws_rowsOf.f k x194000 x194001 x194002 x194003 x194004 x5 (y201 ++ y204) 2).bind fun bt210 => (if bt210.2 = true then (if 0 < (bt210.1.length : Int) then (if ((rd_T38 bt210.1 0).f1) = (Int.tmod (wrap64 (x4 + (wrap64 (Int.tdiv (wrap64 (255 - x3)) x2)))) x0) then (some (((rd_T38 bt210.1 0).f0) == (IntKind.u64.wrap ((IntKind.u64.wrap (x5 + (IntKind.u64.wrap (wrap64 (x1 * (wrap64 (Int.tdiv x4 x0))))))) + (IntKind.u64.wrap (wrap64 (x1 * (wrap64 (Int.tdiv (wrap64 ((Int.tmod x4 x0) + (wrap64 (Int.tdiv (wrap64 (255 - x3)) x2)))) x0))))))))) else (some false)) else (none)) else (some false))) else (none)))) else (none))))))
def laws_FnLineOperations.f (k : Nat) (a0 : Int) (a1 : Int) (a2 : Int) (a3 : Int) (a4 : Int) (a5 : Int) : Option (Bool) := (laws_numbers_right.f a1 a0 0 a2 a3).bind fun t194 => (if t194 = true then (if a3 < 9 then (laws_FnLineOperations.j0 k a0 a1 a2 a3 a4 a5 true a1 a0 0 a2 a3) else (if a4 < 0 then (laws_FnLineOperations.j0 k a0 a1 a2 a3 a4 a5 true a1 a0 0 a2 a3) else (if a4 > 2147483648 then (laws_FnLineOperations.j0 k a0 a1 a2 a3 a4 a5 true a1 a0 0 a2 a3) else (laws_FnLineOperations.j0 k a0 a1 a2 a3 a4 a5 (decide (a5 > 4611686018427387904)) a1 a0 0 a2 a3)))) else (laws_FnLineOperations.j0 k a0 a1 a2 a3 a4 a5 true a1 a0 0 a2 a3))
theorem laws_FnLineOperations.mono_l : ∀ k, (∀ y0 y1 y2 y3 y4 y5 y6 y7 y8 y9 y10 y11, LeO (laws_FnLineOperations.j0 k y0 y1 y2 y3 y4 y5 y6 y7 y8 y9 y10 y11) (laws_FnLineOperations.j0 (k + 1) y0 y1 y2 y3 y4 y5 y6 y7 y8 y9 y10 y11))
  | 0 => fun _ _ _ _ _ _ _ _ _ _ _ _ r h => by simp [laws_FnLineOperations.j0] at h
  | k + 1 => by
    have ih0 := laws_FnLineOperations.mono_l k
    · intro y0 y1 y2 y3 y4 y5 y6 y7 y8 y9 y10 y11
      unfold laws_FnLineOperations.j0
      repeat' first
      | (with_reducible exact ih0 _ _ _ _ _ _ _ _ _ _ _ _)
      | (with_reducible exact laws_rowsOf.mono _ _ _ _ _ _ _ _ _)
      | (with_reducible exact spec_Unsigned.mono _ _ _)
      | (with_reducible exact LeO.refl _)
      | (with_reducible exact LeO.none _)
      | (with_reducible refine LeO.ite ?_ ?_)
      | (with_reducible refine LeO.bind ?_ (fun _ => ?_))
      | exact ih0 _ _ _ _ _ _ _ _ _ _ _ _
      | exact laws_rowsOf.mono _ _ _ _ _ _ _ _ _
      | exact spec_Unsigned.mono _ _ _
      | exact LeO.none _
      | refine LeO.ite ?_ ?_
      | refine LeO.bind ?_ (fun _ => ?_)
theorem laws_FnLineOperations.mono : ∀ a0 a1 a2 a3 a4 a5 k, LeO (laws_FnLineOperations.f k a0 a1 a2 a3 a4 a5) (laws_FnLineOperations.f (k + 1) a0 a1 a2 a3 a4 a5) := by
  intro a0 a1 a2 a3 a4 a5 k
  have ih0 := laws_FnLineOperations.mono_l k
  unfold laws_FnLineOperations.f
  repeat' first
      | (with_reducible exact ih0 _ _ _ _ _ _ _ _ _ _ _ _)
      | (with_reducible exact laws_rowsOf.mono _ _ _ _ _ _ _ _ _)
      | (with_reducible exact spec_Unsigned.mono _ _ _)
      | (with_reducible exact LeO.refl _)
      | (with_reducible exact LeO.none _)
      | (with_reducible refine LeO.ite ?_ ?_)
      | (with_reducible refine LeO.bind ?_ (fun _ => ?_))
      | exact ih0 _ _ _ _ _ _ _ _ _ _ _ _
      | exact laws_rowsOf.mono _ _ _ _ _ _ _ _ _
      | exact spec_Unsigned.mono _ _ _
      | exact LeO.none _
      | refine LeO.ite ?_ ?_
      | refine LeO.bind ?_ (fun _ => ?_)
def laws_FnLineOperations.T5 : Bool × List (List Nat × List Nat) := (true, [([], []), ([], []), ([], []), ([], []), ([2, 3], [2, 3]), ([1, 4], [1, 4]), ([5], [5]), ([0, 6], [0, 6]), ([], []), ([], []), ([], []), ([9, 10], [9, 10]), ([], []), ([11, 12], [11, 12]), ([], []), ([13, 14], [13, 14]), ([8, 15], [8, 15]), ([16], [16]), ([7, 17], [7, 17]), ([18, 0, 1, 2, 3, 4, 5, 6, 7, 8, 9, 10, 11, 12, 13, 14, 15, 16, 17, 18], [18])])
def laws_FnLineOperations.B5 : List Nat := [0, 0, 0, 0, 12, 30, 62, 127, 0, 0, 0, 1536, 0, 7680, 0, 32256, 65280, 130816, 262143, 524287]
theorem laws_FnLineOperations.tab5 : rtab .any (opsOf Tryd.f8 5) = laws_FnLineOperations.T5 := by kernel_rfl
theorem laws_FnLineOperations.bits5 : waitsOk laws_FnLineOperations.T5.2 laws_FnLineOperations.B5 = true := by kernel_rfl
def laws_FnLineOperations.T6 : Bool × List (List Nat × List Nat) := (true, [([], []), ([], []), ([], []), ([], []), ([3], [3]), ([4], [4]), ([2, 5, 5], [2, 5]), ([], []), ([6, 7, 6], [6, 7]), ([0, 1, 8, 8], [0, 1, 8]), ([9], [9]), ([10], [10]), ([10], [10]), ([11, 9, 0, 1, 2, 3, 4, 5, 6, 7, 8, 9, 10, 11], [11]), ([12, 13, 0, 1, 2, 3, 4, 5, 6, 7, 8, 9, 10, 11, 12, 13], [12])])
def laws_FnLineOperations.B6 : List Nat := [0, 0, 0, 0, 8, 24, 60, 0, 252, 511, 1023, 2047, 2047, 4095, 16383]
theorem laws_FnLineOperations.tab6 : rtab .any (opsOf Tryd.f8 6) = laws_FnLineOperations.T6 := by kernel_rfl
theorem laws_FnLineOperations.bits6 : waitsOk laws_FnLineOperations.T6.2 laws_FnLineOperations.B6 = true := by kernel_rfl
def laws_FnLineOperations.T7 : Bool × List (List Nat × List Nat) := (true, [([], []), ([0], [0]), ([1], [1]), ([2, 1], [1, 2]), ([3, 1], [1, 3]), ([4, 1], [1, 4]), ([1], [1]), ([1], [1]), ([6, 7, 1], [1, 6, 7]), ([1], [1]), ([8, 9, 1], [1, 8, 9]), ([5, 10, 1], [1, 5, 10]), ([1, 11], [1, 11]), ([12, 1], [12]), ([13], [13]), ([14, 13], [13, 14]), ([15, 13], [13, 15]), ([16, 13], [13, 16]), ([13], [13]), ([17, 18, 13], [13, 17, 18]), ([13, 19], [13, 19]), ([20, 13, 0, 1, 2, 3, 4, 5, 6, 7, 8, 9, 10, 11, 12, 13, 14, 15, 16, 17, 18, 19, 20], [20])])
def laws_FnLineOperations.B7 : List Nat := [0, 1, 3, 7, 15, 31, 3, 3, 195, 3, 963, 2047, 4095, 8191, 16383, 32767, 65535, 131071, 16383, 524287, 1048575, 2097151]
theorem laws_FnLineOperations.tab7 : rtab .any (opsOf Tryd.f8 7) = laws_FnLineOperations.T7 := by kernel_rfl
theorem laws_FnLineOperations.bits7 : waitsOk laws_FnLineOperations.T7.2 laws_FnLineOperations.B7 = true := by kernel_rfl
set_option maxHeartbeats 8000000 in
set_option maxRecDepth 100000 in
theorem laws_FnLineOperations.calls (k : Nat) (a0 : Int) (a1 : Int) (a2 : Int) (a3 : Int) (a4 : Int) (a5 : Int) (r : Bool) (w : World) (h : laws_FnLineOperations.f k a0 a1 a2 a3 a4 a5 = some r) (hG : Glob w) (hrt : r = true) :
    Calls Tryd.prog 8 #[.int .i64 a0, .int .i64 a1, .int .i64 a2, .int .i64 a3, .int .i64 a4, .int .u64 a5] w fun e w' => e = .returned (.bool r) ∧ Below w.heap.size w w' := by
  have HGL := Aside0.mk hG
  clear hG
  have HRT := Aside0.mk hrt
  clear hrt
  have hu31 := Tryd.underlying31
  have HB := Aside0.mk (Below.refl w.heap.size w)
  have H : ((laws_numbers_right.f a1 a0 0 a2 a3).bind fun t194 => (if t194 = true then (if a3 < 9 then (laws_FnLineOperations.j0 k a0 a1 a2 a3 a4 a5 true a1 a0 0 a2 a3) else (if a4 < 0 then (laws_FnLineOperations.j0 k a0 a1 a2 a3 a4 a5 true a1 a0 0 a2 a3) else (if a4 > 2147483648 then (laws_FnLineOperations.j0 k a0 a1 a2 a3 a4 a5 true a1 a0 0 a2 a3) else (laws_FnLineOperations.j0 k a0 a1 a2 a3 a4 a5 (decide (a5 > 4611686018427387904)) a1 a0 0 a2 a3)))) else (laws_FnLineOperations.j0 k a0 a1 a2 a3 a4 a5 true a1 a0 0 a2 a3))) = some r := h
  clear h
  have HC7 := Aside0.mk H
  clear H
  go_enter Tryd.func8, Tryd.ntmps8
  go_upto_region 2 with (first | ((with_reducible refine gate_dst (N := 13) rfl ?_); refine box_event ?hg (N := 13) ?hd (cs := #[.int .i64 0, .int .i64 0, .int .i64 0, .int .i64 0, .int .i64 0]) (t := 31) ?hr ?_; (case hd => rfl); (case hg => rfl); (case hr => first | (go_simp; done) | (go_simp; rfl)); intro gb193 hg w8 hbox hb; have n0_ := Aside0.mk (below_step qB hb); have n1_ := Aside0.mk (hbox); have n2_ := Aside0.mk ((by rw [hg]; exact (below_size qB) : w.heap.size ≤ gb193)); have n3_ := Aside0.mk ((by rw [hg]; exact (below_size qB) : w.heap.size ≤ gb193)); clear HB; have HB := n0_; have BK193 := n1_; have GW193 := n2_; have GE193 := n3_; clear n0_ n1_ n2_ n3_; clear hb hbox hg; have hcz9_0 : w8.cell? ⟨gb193, 0, none⟩ = some (.int .i64 0) := (blk_cell BK193.out 0).trans rfl; have hcz9_1 : w8.cell? ⟨gb193, 1, none⟩ = some (.int .i64 0) := (blk_cell BK193.out 1).trans rfl; have hcz9_2 : w8.cell? ⟨gb193, 2, none⟩ = some (.int .i64 0) := (blk_cell BK193.out 2).trans rfl; have hcz9_3 : w8.cell? ⟨gb193, 3, none⟩ = some (.int .i64 0) := (blk_cell BK193.out 3).trans rfl; have hcz9_4 : w8.cell? ⟨gb193, 4, none⟩ = some (.int .i64 0) := (blk_cell BK193.out 4).trans rfl; have hfz9_0 := blk_frozen BK193.out 0; have hfz9_1 := blk_frozen BK193.out 1; have hfz9_2 := blk_frozen BK193.out 2; have hfz9_3 := blk_frozen BK193.out 3; have hfz9_4 := blk_frozen BK193.out 4))
  (try simp only [Act.put, zA, zB, zC])
  go_cut [41] (fun v41 wc => ∃ (kq : Nat) (x41_6 : Bool), v41 = .bool x41_6 ∧ Aside0 (laws_FnLineOperations.j0 kq a0 a1 a2 a3 a4 a5 x41_6 a1 a0 0 a2 a3 = some r) ∧ Aside0 (kq ≤ k) ∧ Aside0 (wc.heap[gb193]? = some (.cells #[.int .i64 a1, .int .i64 a0, .int .i64 0, .int .i64 a2, .int .i64 a3] 31 (0, 0))) ∧ Aside0 (Below w.heap.size w wc))
  case first =>
    have H := HC7.out
    clear HC7
    replace H := Option.bind_eq_some_iff.mp H
    obtain ⟨t194, A100, H⟩ := H
    replace H : (if t194 = true then (if a3 < 9 then (laws_FnLineOperations.j0 k a0 a1 a2 a3 a4 a5 true a1 a0 0 a2 a3) else (if a4 < 0 then (laws_FnLineOperations.j0 k a0 a1 a2 a3 a4 a5 true a1 a0 0 a2 a3) else (if a4 > 2147483648 then (laws_FnLineOperations.j0 k a0 a1 a2 a3 a4 a5 true a1 a0 0 a2 a3) else (laws_FnLineOperations.j0 k a0 a1 a2 a3 a4 a5 (decide (a5 > 4611686018427387904)) a1 a0 0 a2 a3)))) else (laws_FnLineOperations.j0 k a0 a1 a2 a3 a4 a5 true a1 a0 0 a2 a3)) = some r := H
    have A10 := Aside0.mk A100
    clear A100
    by_cases c11 : t194 = true
    · subst c11
      have H1 : (if a3 < 9 then (laws_FnLineOperations.j0 k a0 a1 a2 a3 a4 a5 true a1 a0 0 a2 a3) else (if a4 < 0 then (laws_FnLineOperations.j0 k a0 a1 a2 a3 a4 a5 true a1 a0 0 a2 a3) else (if a4 > 2147483648 then (laws_FnLineOperations.j0 k a0 a1 a2 a3 a4 a5 true a1 a0 0 a2 a3) else (laws_FnLineOperations.j0 k a0 a1 a2 a3 a4 a5 (decide (a5 > 4611686018427387904)) a1 a0 0 a2 a3)))) = some r := by rw [if_pos rfl] at H; exact H
      clear H
      have H := H1
      clear H1
      by_cases c12 : a3 < 9
      · rw [if_pos c12] at H
        have c12b0 : decide (a3 < 9) = true := decide_eq_true c12
        clear c12
        (first | rw [c12b0] | (simp only [i64_w, i32_w]; rw [c12b0]) | skip)
        have H' := Aside0.mk H
        clear H
        have hcz13_0 : w8.cell? ⟨gb193, 0, none⟩ = some (.int .i64 0) := (blk_cell BK193.out 0).trans rfl
        have hcz13_1 : w8.cell? ⟨gb193, 1, none⟩ = some (.int .i64 0) := (blk_cell BK193.out 1).trans rfl
        have hcz13_2 : w8.cell? ⟨gb193, 2, none⟩ = some (.int .i64 0) := (blk_cell BK193.out 2).trans rfl
        have hcz13_3 : w8.cell? ⟨gb193, 3, none⟩ = some (.int .i64 0) := (blk_cell BK193.out 3).trans rfl
        have hcz13_4 : w8.cell? ⟨gb193, 4, none⟩ = some (.int .i64 0) := (blk_cell BK193.out 4).trans rfl
        have hfz13_0 := blk_frozen BK193.out 0
        have hfz13_1 := blk_frozen BK193.out 1
        have hfz13_2 := blk_frozen BK193.out 2
        have hfz13_3 := blk_frozen BK193.out 3
        have hfz13_4 := blk_frozen BK193.out 4
        go_wp2_with (first | ((with_reducible refine gate_callee (f := 18) rfl ?_); refine goesL_ (some 24) rfl rfl Tryd.func18 (by kernel_rfl) rfl #[.agg #[.int .i64 a1, .int .i64 a0, .int .i64 0, .int .i64 a2, .int .i64 a3]] rfl qL ?_; (with_reducible refine (laws_numbers_right.calls a1 a0 0 a2 a3 true _ A10.out).mono ?_); rintro e w14 ⟨rfl, hb⟩; refine ⟨_, rfl, ?_⟩; have n0_ := Aside0.mk (blk_below (g := gb193) (o := .cells #[.int .i64 a1, .int .i64 a0, .int .i64 0, .int .i64 a2, .int .i64 a3] 31 (0, 0)) (by (with_reducible repeat (first | refine blk_drewN ?_ _ | refine blk_drew ?_ | refine blk_alloc ?_ _)); refine blk_put (cs := #[.int .i64 a1, .int .i64 a0, .int .i64 0, .int .i64 a2, .int .i64 0]) ?_ 4 _ rfl; (with_reducible repeat (first | refine blk_drewN ?_ _ | refine blk_drew ?_ | refine blk_alloc ?_ _)); refine blk_put (cs := #[.int .i64 a1, .int .i64 a0, .int .i64 0, .int .i64 0, .int .i64 0]) ?_ 3 _ rfl; (with_reducible repeat (first | refine blk_drewN ?_ _ | refine blk_drew ?_ | refine blk_alloc ?_ _)); refine blk_put (cs := #[.int .i64 a1, .int .i64 a0, .int .i64 0, .int .i64 0, .int .i64 0]) ?_ 2 _ rfl; (with_reducible repeat (first | refine blk_drewN ?_ _ | refine blk_drew ?_ | refine blk_alloc ?_ _)); refine blk_put (cs := #[.int .i64 a1, .int .i64 0, .int .i64 0, .int .i64 0, .int .i64 0]) ?_ 1 _ rfl; (with_reducible repeat (first | refine blk_drewN ?_ _ | refine blk_drew ?_ | refine blk_alloc ?_ _)); refine blk_put (cs := #[.int .i64 0, .int .i64 0, .int .i64 0, .int .i64 0, .int .i64 0]) ?_ 0 _ rfl; (with_reducible repeat (first | refine blk_drewN ?_ _ | refine blk_drew ?_ | refine blk_alloc ?_ _)); exact BK193.out) hb); have n1_ := Aside0.mk (below_step (qG GE193.out) hb); clear BK193; clear HB; have BK193 := n0_; have HB := n1_; clear n0_ n1_; (try clear hb); (try clear hb2); (try clear hk); (try clear hi)))
        go_meet
        case rel => exact ⟨_, (true), (by first | rfl | (simp; done) | (simp [*]; done)), H', ⟨by first | omega | exact Nat.le_refl _⟩, ⟨by (with_reducible repeat (first | refine blk_drewN ?_ _ | refine blk_drew ?_ | refine blk_alloc ?_ _)); exact BK193.out⟩, ⟨by repeat (first | (with_reducible first | exact HB.out | apply below_alloc | apply pw_below_drewN | apply below_drew1 | refine below_set ?_ GE193.out) | exact HB.out)⟩⟩
      · rw [if_neg c12] at H
        have c12b0 : decide (a3 < 9) = false := decide_eq_false c12
        clear c12
        (first | rw [c12b0] | (simp only [i64_w, i32_w]; rw [c12b0]) | skip)
        by_cases c15 : a4 < 0
        · rw [if_pos c15] at H
          have c15b0 : decide (a4 < 0) = true := decide_eq_true c15
          clear c15
          have H' := Aside0.mk H
          clear H
          have hcz16_0 : w8.cell? ⟨gb193, 0, none⟩ = some (.int .i64 0) := (blk_cell BK193.out 0).trans rfl
          have hcz16_1 : w8.cell? ⟨gb193, 1, none⟩ = some (.int .i64 0) := (blk_cell BK193.out 1).trans rfl
          have hcz16_2 : w8.cell? ⟨gb193, 2, none⟩ = some (.int .i64 0) := (blk_cell BK193.out 2).trans rfl
          have hcz16_3 : w8.cell? ⟨gb193, 3, none⟩ = some (.int .i64 0) := (blk_cell BK193.out 3).trans rfl
          have hcz16_4 : w8.cell? ⟨gb193, 4, none⟩ = some (.int .i64 0) := (blk_cell BK193.out 4).trans rfl
          have hfz16_0 := blk_frozen BK193.out 0
          have hfz16_1 := blk_frozen BK193.out 1
          have hfz16_2 := blk_frozen BK193.out 2
          have hfz16_3 := blk_frozen BK193.out 3
          have hfz16_4 := blk_frozen BK193.out 4
          go_wp2_with (first | ((with_reducible refine gate_callee (f := 18) rfl ?_); refine goesL_ (some 24) rfl rfl Tryd.func18 (by kernel_rfl) rfl #[.agg #[.int .i64 a1, .int .i64 a0, .int .i64 0, .int .i64 a2, .int .i64 a3]] rfl qL ?_; (with_reducible refine (laws_numbers_right.calls a1 a0 0 a2 a3 true _ A10.out).mono ?_); rintro e w17 ⟨rfl, hb⟩; refine ⟨_, rfl, ?_⟩; have n0_ := Aside0.mk (blk_below (g := gb193) (o := .cells #[.int .i64 a1, .int .i64 a0, .int .i64 0, .int .i64 a2, .int .i64 a3] 31 (0, 0)) (by (with_reducible repeat (first | refine blk_drewN ?_ _ | refine blk_drew ?_ | refine blk_alloc ?_ _)); refine blk_put (cs := #[.int .i64 a1, .int .i64 a0, .int .i64 0, .int .i64 a2, .int .i64 0]) ?_ 4 _ rfl; (with_reducible repeat (first | refine blk_drewN ?_ _ | refine blk_drew ?_ | refine blk_alloc ?_ _)); refine blk_put (cs := #[.int .i64 a1, .int .i64 a0, .int .i64 0, .int .i64 0, .int .i64 0]) ?_ 3 _ rfl; (with_reducible repeat (first | refine blk_drewN ?_ _ | refine blk_drew ?_ | refine blk_alloc ?_ _)); refine blk_put (cs := #[.int .i64 a1, .int .i64 a0, .int .i64 0, .int .i64 0, .int .i64 0]) ?_ 2 _ rfl; (with_reducible repeat (first | refine blk_drewN ?_ _ | refine blk_drew ?_ | refine blk_alloc ?_ _)); refine blk_put (cs := #[.int .i64 a1, .int .i64 0, .int .i64 0, .int .i64 0, .int .i64 0]) ?_ 1 _ rfl; (with_reducible repeat (first | refine blk_drewN ?_ _ | refine blk_drew ?_ | refine blk_alloc ?_ _)); refine blk_put (cs := #[.int .i64 0, .int .i64 0, .int .i64 0, .int .i64 0, .int .i64 0]) ?_ 0 _ rfl; (with_reducible repeat (first | refine blk_drewN ?_ _ | refine blk_drew ?_ | refine blk_alloc ?_ _)); exact BK193.out) hb); have n1_ := Aside0.mk (below_step (qG GE193.out) hb); clear BK193; clear HB; have BK193 := n0_; have HB := n1_; clear n0_ n1_; (try clear hb); (try clear hb2); (try clear hk); (try clear hi)))
          go_meet
          case rel => exact ⟨_, (true), (by first | rfl | (simp; done) | (simp [*]; done)), H', ⟨by first | omega | exact Nat.le_refl _⟩, ⟨by (with_reducible repeat (first | refine blk_drewN ?_ _ | refine blk_drew ?_ | refine blk_alloc ?_ _)); exact BK193.out⟩, ⟨by repeat (first | (with_reducible first | exact HB.out | apply below_alloc | apply pw_below_drewN | apply below_drew1 | refine below_set ?_ GE193.out) | exact HB.out)⟩⟩
        · rw [if_neg c15] at H
          have c15b0 : decide (a4 < 0) = false := decide_eq_false c15
          clear c15
          by_cases c18 : a4 > 2147483648
          · rw [if_pos c18] at H
            have c18b0 : decide (2147483648 < a4) = true := decide_eq_true c18
            clear c18
            have H' := Aside0.mk H
            clear H
            have hcz19_0 : w8.cell? ⟨gb193, 0, none⟩ = some (.int .i64 0) := (blk_cell BK193.out 0).trans rfl
            have hcz19_1 : w8.cell? ⟨gb193, 1, none⟩ = some (.int .i64 0) := (blk_cell BK193.out 1).trans rfl
            have hcz19_2 : w8.cell? ⟨gb193, 2, none⟩ = some (.int .i64 0) := (blk_cell BK193.out 2).trans rfl
            have hcz19_3 : w8.cell? ⟨gb193, 3, none⟩ = some (.int .i64 0) := (blk_cell BK193.out 3).trans rfl
            have hcz19_4 : w8.cell? ⟨gb193, 4, none⟩ = some (.int .i64 0) := (blk_cell BK193.out 4).trans rfl
            have hfz19_0 := blk_frozen BK193.out 0
            have hfz19_1 := blk_frozen BK193.out 1
            have hfz19_2 := blk_frozen BK193.out 2
            have hfz19_3 := blk_frozen BK193.out 3
            have hfz19_4 := blk_frozen BK193.out 4
            go_wp2_with (first | ((with_reducible refine gate_callee (f := 18) rfl ?_); refine goesL_ (some 24) rfl rfl Tryd.func18 (by kernel_rfl) rfl #[.agg #[.int .i64 a1, .int .i64 a0, .int .i64 0, .int .i64 a2, .int .i64 a3]] rfl qL ?_; (with_reducible refine (laws_numbers_right.calls a1 a0 0 a2 a3 true _ A10.out).mono ?_); rintro e w20 ⟨rfl, hb⟩; refine ⟨_, rfl, ?_⟩; have n0_ := Aside0.mk (blk_below (g := gb193) (o := .cells #[.int .i64 a1, .int .i64 a0, .int .i64 0, .int .i64 a2, .int .i64 a3] 31 (0, 0)) (by (with_reducible repeat (first | refine blk_drewN ?_ _ | refine blk_drew ?_ | refine blk_alloc ?_ _)); refine blk_put (cs := #[.int .i64 a1, .int .i64 a0, .int .i64 0, .int .i64 a2, .int .i64 0]) ?_ 4 _ rfl; (with_reducible repeat (first | refine blk_drewN ?_ _ | refine blk_drew ?_ | refine blk_alloc ?_ _)); refine blk_put (cs := #[.int .i64 a1, .int .i64 a0, .int .i64 0, .int .i64 0, .int .i64 0]) ?_ 3 _ rfl; (with_reducible repeat (first | refine blk_drewN ?_ _ | refine blk_drew ?_ | refine blk_alloc ?_ _)); refine blk_put (cs := #[.int .i64 a1, .int .i64 a0, .int .i64 0, .int .i64 0, .int .i64 0]) ?_ 2 _ rfl; (with_reducible repeat (first | refine blk_drewN ?_ _ | refine blk_drew ?_ | refine blk_alloc ?_ _)); refine blk_put (cs := #[.int .i64 a1, .int .i64 0, .int .i64 0, .int .i64 0, .int .i64 0]) ?_ 1 _ rfl; (with_reducible repeat (first | refine blk_drewN ?_ _ | refine blk_drew ?_ | refine blk_alloc ?_ _)); refine blk_put (cs := #[.int .i64 0, .int .i64 0, .int .i64 0, .int .i64 0, .int .i64 0]) ?_ 0 _ rfl; (with_reducible repeat (first | refine blk_drewN ?_ _ | refine blk_drew ?_ | refine blk_alloc ?_ _)); exact BK193.out) hb); have n1_ := Aside0.mk (below_step (qG GE193.out) hb); clear BK193; clear HB; have BK193 := n0_; have HB := n1_; clear n0_ n1_; (try clear hb); (try clear hb2); (try clear hk); (try clear hi)))
            go_meet
            case rel => exact ⟨_, (true), (by first | rfl | (simp; done) | (simp [*]; done)), H', ⟨by first | omega | exact Nat.le_refl _⟩, ⟨by (with_reducible repeat (first | refine blk_drewN ?_ _ | refine blk_drew ?_ | refine blk_alloc ?_ _)); exact BK193.out⟩, ⟨by repeat (first | (with_reducible first | exact HB.out | apply below_alloc | apply pw_below_drewN | apply below_drew1 | refine below_set ?_ GE193.out) | exact HB.out)⟩⟩
          · rw [if_neg c18] at H
            have c18b0 : decide (2147483648 < a4) = false := decide_eq_false c18
            clear c18
            have H' := Aside0.mk H
            clear H
            have hcz21_0 : w8.cell? ⟨gb193, 0, none⟩ = some (.int .i64 0) := (blk_cell BK193.out 0).trans rfl
            have hcz21_1 : w8.cell? ⟨gb193, 1, none⟩ = some (.int .i64 0) := (blk_cell BK193.out 1).trans rfl
            have hcz21_2 : w8.cell? ⟨gb193, 2, none⟩ = some (.int .i64 0) := (blk_cell BK193.out 2).trans rfl
            have hcz21_3 : w8.cell? ⟨gb193, 3, none⟩ = some (.int .i64 0) := (blk_cell BK193.out 3).trans rfl
            have hcz21_4 : w8.cell? ⟨gb193, 4, none⟩ = some (.int .i64 0) := (blk_cell BK193.out 4).trans rfl
            have hfz21_0 := blk_frozen BK193.out 0
            have hfz21_1 := blk_frozen BK193.out 1
            have hfz21_2 := blk_frozen BK193.out 2
            have hfz21_3 := blk_frozen BK193.out 3
            have hfz21_4 := blk_frozen BK193.out 4
            go_wp2_with (first | ((with_reducible refine gate_callee (f := 18) rfl ?_); refine goesL_ (some 24) rfl rfl Tryd.func18 (by kernel_rfl) rfl #[.agg #[.int .i64 a1, .int .i64 a0, .int .i64 0, .int .i64 a2, .int .i64 a3]] rfl qL ?_; (with_reducible refine (laws_numbers_right.calls a1 a0 0 a2 a3 true _ A10.out).mono ?_); rintro e w22 ⟨rfl, hb⟩; refine ⟨_, rfl, ?_⟩; have n0_ := Aside0.mk (blk_below (g := gb193) (o := .cells #[.int .i64 a1, .int .i64 a0, .int .i64 0, .int .i64 a2, .int .i64 a3] 31 (0, 0)) (by (with_reducible repeat (first | refine blk_drewN ?_ _ | refine blk_drew ?_ | refine blk_alloc ?_ _)); refine blk_put (cs := #[.int .i64 a1, .int .i64 a0, .int .i64 0, .int .i64 a2, .int .i64 0]) ?_ 4 _ rfl; (with_reducible repeat (first | refine blk_drewN ?_ _ | refine blk_drew ?_ | refine blk_alloc ?_ _)); refine blk_put (cs := #[.int .i64 a1, .int .i64 a0, .int .i64 0, .int .i64 0, .int .i64 0]) ?_ 3 _ rfl; (with_reducible repeat (first | refine blk_drewN ?_ _ | refine blk_drew ?_ | refine blk_alloc ?_ _)); refine blk_put (cs := #[.int .i64 a1, .int .i64 a0, .int .i64 0, .int .i64 0, .int .i64 0]) ?_ 2 _ rfl; (with_reducible repeat (first | refine blk_drewN ?_ _ | refine blk_drew ?_ | refine blk_alloc ?_ _)); refine blk_put (cs := #[.int .i64 a1, .int .i64 0, .int .i64 0, .int .i64 0, .int .i64 0]) ?_ 1 _ rfl; (with_reducible repeat (first | refine blk_drewN ?_ _ | refine blk_drew ?_ | refine blk_alloc ?_ _)); refine blk_put (cs := #[.int .i64 0, .int .i64 0, .int .i64 0, .int .i64 0, .int .i64 0]) ?_ 0 _ rfl; (with_reducible repeat (first | refine blk_drewN ?_ _ | refine blk_drew ?_ | refine blk_alloc ?_ _)); exact BK193.out) hb); have n1_ := Aside0.mk (below_step (qG GE193.out) hb); clear BK193; clear HB; have BK193 := n0_; have HB := n1_; clear n0_ n1_; (try clear hb); (try clear hb2); (try clear hk); (try clear hi)))
            go_meet
            case rel => exact ⟨_, (decide (a5 > 4611686018427387904)), (by first | rfl | (simp; done) | (simp [*]; done)), H', ⟨by first | omega | exact Nat.le_refl _⟩, ⟨by (with_reducible repeat (first | refine blk_drewN ?_ _ | refine blk_drew ?_ | refine blk_alloc ?_ _)); exact BK193.out⟩, ⟨by repeat (first | (with_reducible first | exact HB.out | apply below_alloc | apply pw_below_drewN | apply below_drew1 | refine below_set ?_ GE193.out) | exact HB.out)⟩⟩
    · replace c11 := Bool.eq_false_iff.mpr c11
      subst c11
      have H1 : (laws_FnLineOperations.j0 k a0 a1 a2 a3 a4 a5 true a1 a0 0 a2 a3) = some r := by rw [if_neg (show ¬ (false = true) by decide)] at H; exact H
      clear H
      have H := H1
      clear H1
      have H' := Aside0.mk H
      clear H
      have hcz23_0 : w8.cell? ⟨gb193, 0, none⟩ = some (.int .i64 0) := (blk_cell BK193.out 0).trans rfl
      have hcz23_1 : w8.cell? ⟨gb193, 1, none⟩ = some (.int .i64 0) := (blk_cell BK193.out 1).trans rfl
      have hcz23_2 : w8.cell? ⟨gb193, 2, none⟩ = some (.int .i64 0) := (blk_cell BK193.out 2).trans rfl
      have hcz23_3 : w8.cell? ⟨gb193, 3, none⟩ = some (.int .i64 0) := (blk_cell BK193.out 3).trans rfl
      have hcz23_4 : w8.cell? ⟨gb193, 4, none⟩ = some (.int .i64 0) := (blk_cell BK193.out 4).trans rfl
      have hfz23_0 := blk_frozen BK193.out 0
      have hfz23_1 := blk_frozen BK193.out 1
      have hfz23_2 := blk_frozen BK193.out 2
      have hfz23_3 := blk_frozen BK193.out 3
      have hfz23_4 := blk_frozen BK193.out 4
      go_wp2_with (first | ((with_reducible refine gate_callee (f := 18) rfl ?_); refine goesL_ (some 24) rfl rfl Tryd.func18 (by kernel_rfl) rfl #[.agg #[.int .i64 a1, .int .i64 a0, .int .i64 0, .int .i64 a2, .int .i64 a3]] rfl qL ?_; (with_reducible refine (laws_numbers_right.calls a1 a0 0 a2 a3 false _ A10.out).mono ?_); rintro e w24 ⟨rfl, hb⟩; refine ⟨_, rfl, ?_⟩; have n0_ := Aside0.mk (blk_below (g := gb193) (o := .cells #[.int .i64 a1, .int .i64 a0, .int .i64 0, .int .i64 a2, .int .i64 a3] 31 (0, 0)) (by (with_reducible repeat (first | refine blk_drewN ?_ _ | refine blk_drew ?_ | refine blk_alloc ?_ _)); refine blk_put (cs := #[.int .i64 a1, .int .i64 a0, .int .i64 0, .int .i64 a2, .int .i64 0]) ?_ 4 _ rfl; (with_reducible repeat (first | refine blk_drewN ?_ _ | refine blk_drew ?_ | refine blk_alloc ?_ _)); refine blk_put (cs := #[.int .i64 a1, .int .i64 a0, .int .i64 0, .int .i64 0, .int .i64 0]) ?_ 3 _ rfl; (with_reducible repeat (first | refine blk_drewN ?_ _ | refine blk_drew ?_ | refine blk_alloc ?_ _)); refine blk_put (cs := #[.int .i64 a1, .int .i64 a0, .int .i64 0, .int .i64 0, .int .i64 0]) ?_ 2 _ rfl; (with_reducible repeat (first | refine blk_drewN ?_ _ | refine blk_drew ?_ | refine blk_alloc ?_ _)); refine blk_put (cs := #[.int .i64 a1, .int .i64 0, .int .i64 0, .int .i64 0, .int .i64 0]) ?_ 1 _ rfl; (with_reducible repeat (first | refine blk_drewN ?_ _ | refine blk_drew ?_ | refine blk_alloc ?_ _)); refine blk_put (cs := #[.int .i64 0, .int .i64 0, .int .i64 0, .int .i64 0, .int .i64 0]) ?_ 0 _ rfl; (with_reducible repeat (first | refine blk_drewN ?_ _ | refine blk_drew ?_ | refine blk_alloc ?_ _)); exact BK193.out) hb); have n1_ := Aside0.mk (below_step (qG GE193.out) hb); clear BK193; clear HB; have BK193 := n0_; have HB := n1_; clear n0_ n1_; (try clear hb); (try clear hb2); (try clear hk); (try clear hi)))
      go_meet
      case rel => exact ⟨_, (true), (by first | rfl | (simp; done) | (simp [*]; done)), H', ⟨by first | omega | exact Nat.le_refl _⟩, ⟨by (with_reducible repeat (first | refine blk_drewN ?_ _ | refine blk_drew ?_ | refine blk_alloc ?_ _)); exact BK193.out⟩, ⟨by repeat (first | (with_reducible first | exact HB.out | apply below_alloc | apply pw_below_drewN | apply below_drew1 | refine below_set ?_ GE193.out) | exact HB.out)⟩⟩
  case rest =>
    clear HC7
    try clear c1
    try clear p2
    try clear c8
    try clear c11
    try clear c12
    try clear c12b0
    try clear c15
    try clear c15b0
    try clear c18
    try clear c18b0
    try clear hcz13_0
    try clear hcz13_1
    try clear hcz13_2
    try clear hcz13_3
    try clear hcz13_4
    try clear hcz16_0
    try clear hcz16_1
    try clear hcz16_2
    try clear hcz16_3
    try clear hcz16_4
    try clear hcz19_0
    try clear hcz19_1
    try clear hcz19_2
    try clear hcz19_3
    try clear hcz19_4
    try clear hcz21_0
    try clear hcz21_1
    try clear hcz21_2
    try clear hcz21_3
    try clear hcz21_4
    try clear hcz23_0
    try clear hcz23_1
    try clear hcz23_2
    try clear hcz23_3
    try clear hcz23_4
    try clear hcz9_0
    try clear hcz9_1
    try clear hcz9_2
    try clear hcz9_3
    try clear hcz9_4
    try clear hfz13_0
    try clear hfz13_1
    try clear hfz13_2
    try clear hfz13_3
    try clear hfz13_4
    try clear hfz16_0
    try clear hfz16_1
    try clear hfz16_2
    try clear hfz16_3
    try clear hfz16_4
    try clear hfz19_0
    try clear hfz19_1
    try clear hfz19_2
    try clear hfz19_3
    try clear hfz19_4
    try clear hfz21_0
    try clear hfz21_1
    try clear hfz21_2
    try clear hfz21_3
    try clear hfz21_4
    try clear hfz23_0
    try clear hfz23_1
    try clear hfz23_2
    try clear hfz23_3
    try clear hfz23_4
    try clear hfz9_0
    try clear hfz9_1
    try clear hfz9_2
    try clear hfz9_3
    try clear hfz9_4
    obtain ⟨kq, x41_6, rfl, HA, HJ6, BK193, HB⟩ := hcut
    cases kq with
    | zero => exact absurd HA.out (by simp [laws_FnLineOperations.j0])
    | succ kj6 =>
      have H := HA.out
      clear HA
      simp only [laws_FnLineOperations.j0] at H
      by_cases c25 : x41_6 = true
      · subst c25
        have H1 : (some true) = some r := by rw [if_pos rfl] at H; exact H
        clear H
        have H := H1
        clear H1
        obtain rfl := Option.some.inj H
        go_wp2
        go_ret
        exact ⟨by first | rfl | (simp [errW_none, errW_some] <;> rfl) | (simp [*, errW_none, errW_some] <;> rfl), by repeat (first | (with_reducible first | exact HB.out | apply below_alloc | apply pw_below_drewN | apply below_drew1 | refine below_set ?_ GE193.out) | exact HB.out)⟩
      · replace c25 := Bool.eq_false_iff.mpr c25
        subst c25
        have H1 : (if a2 = 0 then (none) else (if a0 = 0 then (none) else ((some (([2] : List Int) : List Int)).bind fun y195 => ((spec_Unsigned.f kj6 (IntKind.u64.wrap (a4)) 0).bind fun t198 => (if y195.length + t198.length < 140737488355328 then ((some (y195 ++ t198 : List Int)).bind fun y201 => ((some (([8, 1] : List Int) : List Int)).bind fun y204 => (if y201.length + y204.length < 140737488355328 then ((laws_rowsOf.f kj6 a1 a0 0 a2 a3 a5 (y201 ++ y204) 2).bind fun bt210 => (if bt210.2 = true then (if 0 < (bt210.1.length : Int) then (if ((rd_T38 bt210.1 0).f1) = (Int.tmod (wrap64 (a4 + (wrap64 (Int.tdiv (wrap64 (255 - a3)) a2)))) a0) then (some (((rd_T38 bt210.1 0).f0) == (IntKind.u64.wrap ((IntKind.u64.wrap (a5 + (IntKind.u64.wrap (wrap64 (a1 * (wrap64 (Int.tdiv a4 a0))))))) + (IntKind.u64.wrap (wrap64 (a1 * (wrap64 (Int.tdiv (wrap64 ((Int.tmod a4 a0) + (wrap64 (Int.tdiv (wrap64 (255 - a3)) a2)))) a0))))))))) else (some false)) else (none)) else (some false))) else (none)))) else (none)))))) = some r := by rw [if_neg (show ¬ (false = true) by decide)] at H; exact H
        clear H
        have H := H1
        clear H1
        by_cases c26 : a2 = 0
        · rw [if_pos c26] at H
          exact absurd H (by simp)
        · rw [if_neg c26] at H
          have c26b0 : (a2 == 0) = false := beq_eq_false_iff_ne.mpr c26
          have c26b1 : (a2 != 0) = true := bne_iff_ne.mpr c26
          by_cases c27 : a0 = 0
          · rw [if_pos c27] at H
            exact absurd H (by simp)
          · rw [if_neg c27] at H
            have c27b0 : (a0 == 0) = false := beq_eq_false_iff_ne.mpr c27
            have c27b1 : (a0 != 0) = true := bne_iff_ne.mpr c27
            obtain ⟨y195, hy195⟩ : ∃ y_ : List Int, y_ = (([2] : List Int)) := ⟨_, rfl⟩
            replace H : ((spec_Unsigned.f kj6 (IntKind.u64.wrap (a4)) 0).bind fun t198 => (if y195.length + t198.length < 140737488355328 then ((some (y195 ++ t198 : List Int)).bind fun y201 => ((some (([8, 1] : List Int) : List Int)).bind fun y204 => (if y201.length + y204.length < 140737488355328 then ((laws_rowsOf.f kj6 a1 a0 0 a2 a3 a5 (y201 ++ y204) 2).bind fun bt210 => (if bt210.2 = true then (if 0 < (bt210.1.length : Int) then (if ((rd_T38 bt210.1 0).f1) = (Int.tmod (wrap64 (a4 + (wrap64 (Int.tdiv (wrap64 (255 - a3)) a2)))) a0) then (some (((rd_T38 bt210.1 0).f0) == (IntKind.u64.wrap ((IntKind.u64.wrap (a5 + (IntKind.u64.wrap (wrap64 (a1 * (wrap64 (Int.tdiv a4 a0))))))) + (IntKind.u64.wrap (wrap64 (a1 * (wrap64 (Int.tdiv (wrap64 ((Int.tmod a4 a0) + (wrap64 (Int.tdiv (wrap64 (255 - a3)) a2)))) a0))))))))) else (some false)) else (none)) else (some false))) else (none)))) else (none))) = some r := by first | (rw [hy195]; with_reducible exact H) | (have H2_ := (Option.bind_some _ _).symm.trans H; rw [hy195]; with_reducible exact H2_) | (have H2_ := (Option.bind_some _ _).symm.trans H; with_reducible exact H2_) | with_reducible exact H | (rw [hy195]; exact H) | exact H
            have Ny195 := Aside0.mk hy195
            clear hy195
            replace H := Option.bind_eq_some_iff.mp H
            obtain ⟨t198, A280, H⟩ := H
            replace H : (if y195.length + t198.length < 140737488355328 then ((some (y195 ++ t198 : List Int)).bind fun y201 => ((some (([8, 1] : List Int) : List Int)).bind fun y204 => (if y201.length + y204.length < 140737488355328 then ((laws_rowsOf.f kj6 a1 a0 0 a2 a3 a5 (y201 ++ y204) 2).bind fun bt210 => (if bt210.2 = true then (if 0 < (bt210.1.length : Int) then (if ((rd_T38 bt210.1 0).f1) = (Int.tmod (wrap64 (a4 + (wrap64 (Int.tdiv (wrap64 (255 - a3)) a2)))) a0) then (some (((rd_T38 bt210.1 0).f0) == (IntKind.u64.wrap ((IntKind.u64.wrap (a5 + (IntKind.u64.wrap (wrap64 (a1 * (wrap64 (Int.tdiv a4 a0))))))) + (IntKind.u64.wrap (wrap64 (a1 * (wrap64 (Int.tdiv (wrap64 ((Int.tmod a4 a0) + (wrap64 (Int.tdiv (wrap64 (255 - a3)) a2)))) a0))))))))) else (some false)) else (none)) else (some false))) else (none)))) else (none)) = some r := H
            have A28 := Aside0.mk A280
            clear A280
            by_cases c29 : y195.length + t198.length < 140737488355328
            · rw [if_pos c29] at H
              have LMc29 := Aside0.mk c29
              clear c29
              obtain ⟨y201, hy201⟩ : ∃ y_ : List Int, y_ = (y195 ++ t198) := ⟨_, rfl⟩
              replace H : ((some (([8, 1] : List Int) : List Int)).bind fun y204 => (if y201.length + y204.length < 140737488355328 then ((laws_rowsOf.f kj6 a1 a0 0 a2 a3 a5 (y201 ++ y204) 2).bind fun bt210 => (if bt210.2 = true then (if 0 < (bt210.1.length : Int) then (if ((rd_T38 bt210.1 0).f1) = (Int.tmod (wrap64 (a4 + (wrap64 (Int.tdiv (wrap64 (255 - a3)) a2)))) a0) then (some (((rd_T38 bt210.1 0).f0) == (IntKind.u64.wrap ((IntKind.u64.wrap (a5 + (IntKind.u64.wrap (wrap64 (a1 * (wrap64 (Int.tdiv a4 a0))))))) + (IntKind.u64.wrap (wrap64 (a1 * (wrap64 (Int.tdiv (wrap64 ((Int.tmod a4 a0) + (wrap64 (Int.tdiv (wrap64 (255 - a3)) a2)))) a0))))))))) else (some false)) else (none)) else (some false))) else (none))) = some r := by first | (rw [hy201]; with_reducible exact H) | (have H2_ := (Option.bind_some _ _).symm.trans H; rw [hy201]; with_reducible exact H2_) | (have H2_ := (Option.bind_some _ _).symm.trans H; with_reducible exact H2_) | with_reducible exact H | (rw [hy201]; exact H) | exact H
              have Ny201 := Aside0.mk hy201
              clear hy201
              obtain ⟨y204, hy204⟩ : ∃ y_ : List Int, y_ = (([8, 1] : List Int)) := ⟨_, rfl⟩
              replace H : (if y201.length + y204.length < 140737488355328 then ((laws_rowsOf.f kj6 a1 a0 0 a2 a3 a5 (y201 ++ y204) 2).bind fun bt210 => (if bt210.2 = true then (if 0 < (bt210.1.length : Int) then (if ((rd_T38 bt210.1 0).f1) = (Int.tmod (wrap64 (a4 + (wrap64 (Int.tdiv (wrap64 (255 - a3)) a2)))) a0) then (some (((rd_T38 bt210.1 0).f0) == (IntKind.u64.wrap ((IntKind.u64.wrap (a5 + (IntKind.u64.wrap (wrap64 (a1 * (wrap64 (Int.tdiv a4 a0))))))) + (IntKind.u64.wrap (wrap64 (a1 * (wrap64 (Int.tdiv (wrap64 ((Int.tmod a4 a0) + (wrap64 (Int.tdiv (wrap64 (255 - a3)) a2)))) a0))))))))) else (some false)) else (none)) else (some false))) else (none)) = some r := by first | (rw [hy204]; with_reducible exact H) | (have H2_ := (Option.bind_some _ _).symm.trans H; rw [hy204]; with_reducible exact H2_) | (have H2_ := (Option.bind_some _ _).symm.trans H; with_reducible exact H2_) | with_reducible exact H | (rw [hy204]; exact H) | exact H
              have Ny204 := Aside0.mk hy204
              clear hy204
              by_cases c30 : y201.length + y204.length < 140737488355328
              · rw [if_pos c30] at H
                have LMc30 := Aside0.mk c30
                clear c30
                obtain ⟨y207, hy207⟩ : ∃ y_ : List Int, y_ = (y201 ++ y204) := ⟨_, rfl⟩
                replace H : ((laws_rowsOf.f kj6 a1 a0 0 a2 a3 a5 y207 2).bind fun bt210 => (if bt210.2 = true then (if 0 < (bt210.1.length : Int) then (if ((rd_T38 bt210.1 0).f1) = (Int.tmod (wrap64 (a4 + (wrap64 (Int.tdiv (wrap64 (255 - a3)) a2)))) a0) then (some (((rd_T38 bt210.1 0).f0) == (IntKind.u64.wrap ((IntKind.u64.wrap (a5 + (IntKind.u64.wrap (wrap64 (a1 * (wrap64 (Int.tdiv a4 a0))))))) + (IntKind.u64.wrap (wrap64 (a1 * (wrap64 (Int.tdiv (wrap64 ((Int.tmod a4 a0) + (wrap64 (Int.tdiv (wrap64 (255 - a3)) a2)))) a0))))))))) else (some false)) else (none)) else (some false))) = some r := by first | (rw [hy207]; with_reducible exact H) | (have H2_ := (Option.bind_some _ _).symm.trans H; rw [hy207]; with_reducible exact H2_) | (have H2_ := (Option.bind_some _ _).symm.trans H; with_reducible exact H2_) | with_reducible exact H | (rw [hy207]; exact H) | exact H
                have Ny207 := Aside0.mk hy207
                clear hy207
                replace H := Option.bind_eq_some_iff.mp H
                obtain ⟨⟨t210, t213⟩, A310, H⟩ := H
                replace H : (if t213 = true then (if 0 < (t210.length : Int) then (if ((rd_T38 t210 0).f1) = (Int.tmod (wrap64 (a4 + (wrap64 (Int.tdiv (wrap64 (255 - a3)) a2)))) a0) then (some (((rd_T38 t210 0).f0) == (IntKind.u64.wrap ((IntKind.u64.wrap (a5 + (IntKind.u64.wrap (wrap64 (a1 * (wrap64 (Int.tdiv a4 a0))))))) + (IntKind.u64.wrap (wrap64 (a1 * (wrap64 (Int.tdiv (wrap64 ((Int.tmod a4 a0) + (wrap64 (Int.tdiv (wrap64 (255 - a3)) a2)))) a0))))))))) else (some false)) else (none)) else (some false)) = some r := H
                have A31 := Aside0.mk A310
                clear A310
                by_cases c32 : t213 = true
                · subst c32
                  have H1 : (if 0 < (t210.length : Int) then (if ((rd_T38 t210 0).f1) = (Int.tmod (wrap64 (a4 + (wrap64 (Int.tdiv (wrap64 (255 - a3)) a2)))) a0) then (some (((rd_T38 t210 0).f0) == (IntKind.u64.wrap ((IntKind.u64.wrap (a5 + (IntKind.u64.wrap (wrap64 (a1 * (wrap64 (Int.tdiv a4 a0))))))) + (IntKind.u64.wrap (wrap64 (a1 * (wrap64 (Int.tdiv (wrap64 ((Int.tmod a4 a0) + (wrap64 (Int.tdiv (wrap64 (255 - a3)) a2)))) a0))))))))) else (some false)) else (none)) = some r := by rw [if_pos rfl] at H; exact H
                  clear H
                  have H := H1
                  clear H1
                  by_cases c33 : 0 < (t210.length : Int)
                  · rw [if_pos c33] at H
                    have c33b0 : decide (0 < (t210.length : Int)) = true := decide_eq_true c33
                    have c33b1 : decide (0 < t210.length) = true := decide_eq_true (by omega)
                    clear c33
                    by_cases c34 : ((rd_T38 t210 0).f1) = (Int.tmod (wrap64 (a4 + (wrap64 (Int.tdiv (wrap64 (255 - a3)) a2)))) a0)
                    · rw [if_pos c34] at H
                      have c34b0 : (((rd_T38 t210 0).f1) == (Int.tmod (wrap64 (a4 + (wrap64 (Int.tdiv (wrap64 (255 - a3)) a2)))) a0)) = true := beq_iff_eq.mpr c34
                      have c34b1 : (((rd_T38 t210 0).f1) != (Int.tmod (wrap64 (a4 + (wrap64 (Int.tdiv (wrap64 (255 - a3)) a2)))) a0)) = false := bne_eq_false_iff_eq.mpr c34
                      clear c34
                      obtain rfl := Option.some.inj H
                      try go_wp2
                      have n0_ := Aside0.mk (blk_drew BK193.out)
                      have n1_ := Aside0.mk (below_drew1 HB.out)
                      clear BK193
                      clear HB
                      have BK193 := n0_
                      have HB := n1_
                      clear n0_ n1_
                      refine start_ (n := 20) (S := fun w' => True) (ds := []) #[false, false, false, false, false, false, false, false, false, false, false, false, false, false, false, false, false, false, false, false] (by kernel_rfl) rfl rfl trivial (fun hHeld => ?_); refine with_tabW laws_FnLineOperations.tab5 laws_FnLineOperations.bits5 (fun HT_ HW_ => ?_)
                      generalize wc.drew = w35 at BK193 HB hHeld ⊢
                      refine pure_ (i := 0) (N := some 46) (v := ?_) (a' := ?_) #[true, false, false, false, false, false, false, false, false, false, false, false, false, false, false, false, false, false, false, false] rfl rfl (any_of HT_.out (by kernel_rfl)) (fun _ _ _ h => h) (Or.inl ⟨by rfl, ?_⟩) ?_ ?_
                      rotate_left
                      · intro w'
                        go_simp
                        with_reducible rfl
                      rotate_left
                      · simp only [Act.put, zA, zB, zC, i64_w, i32_w]
                        rfl
                      refine pure_ (i := 1) (N := some 47) (v := ?_) (a' := ?_) #[true, true, false, false, false, false, false, false, false, false, false, false, false, false, false, false, false, false, false, false] rfl rfl (any_of HT_.out (by kernel_rfl)) (fun _ _ _ h => h) (Or.inl ⟨by rfl, ?_⟩) ?_ ?_
                      rotate_left
                      · intro w'
                        go_simp
                        with_reducible rfl
                      rotate_left
                      · simp only [Act.put, zA, zB, zC, i64_w, i32_w]
                        rfl
                      refine pure_ (i := 2) (N := some 48) (v := ?_) (a' := ?_) #[true, true, true, false, false, false, false, false, false, false, false, false, false, false, false, false, false, false, false, false] rfl rfl (any_of HT_.out (by kernel_rfl)) (fun _ _ _ h => h) (Or.inl ⟨by rfl, ?_⟩) ?_ ?_
                      rotate_left
                      · intro w'
                        go_simp
                        with_reducible rfl
                      rotate_left
                      · simp only [Act.put, zA, zB, zC, i64_w, i32_w]
                        rfl
                      refine pure_ (i := 3) (N := some 49) (v := ?_) (a' := ?_) #[true, true, true, true, false, false, false, false, false, false, false, false, false, false, false, false, false, false, false, false] rfl rfl (any_of HT_.out (by kernel_rfl)) (fun _ _ _ h => h) (Or.inl ⟨by rfl, ?_⟩) ?_ ?_
                      rotate_left
                      · intro w'
                        go_simp
                        with_reducible rfl
                      rotate_left
                      · simp only [Act.put, zA, zB, zC, i64_w, i32_w]
                        rfl
                      refine pure_ (i := 4) (N := some 50) (v := ?_) (a' := ?_) #[true, true, true, true, true, false, false, false, false, false, false, false, false, false, false, false, false, false, false, false] rfl rfl (any_of HT_.out (by kernel_rfl)) (fun _ _ _ h => h) (Or.inl ⟨by rfl, ?_⟩) ?_ ?_
                      rotate_left
                      · intro w'
                        go_simp
                        with_reducible rfl
                      rotate_left
                      · simp only [Act.put, zA, zB, zC, i64_w, i32_w]
                        rfl
                      refine pure_ (i := 5) (N := some 51) (v := ?_) (a' := ?_) #[true, true, true, true, true, true, false, false, false, false, false, false, false, false, false, false, false, false, false, false] rfl rfl (any_of HT_.out (by kernel_rfl)) (fun _ _ _ h => h) (Or.inl ⟨by rfl, ?_⟩) ?_ ?_
                      rotate_left
                      · intro w'
                        go_simp
                        with_reducible rfl
                      rotate_left
                      · simp only [Act.put, zA, zB, zC, i64_w, i32_w]
                        rfl
                      refine pure_ (i := 6) (N := some 52) (v := ?_) (a' := ?_) #[true, true, true, true, true, true, true, false, false, false, false, false, false, false, false, false, false, false, false, false] rfl rfl (any_of HT_.out (by kernel_rfl)) (fun _ _ _ h => h) (Or.inl ⟨by rfl, ?_⟩) ?_ ?_
                      rotate_left
                      · intro w'
                        go_simp
                        with_reducible rfl
                      rotate_left
                      · simp only [Act.put, zA, zB, zC, i64_w, i32_w]
                        rfl
                      refine pure_ (i := 7) (N := some 53) (v := ?_) (a' := ?_) #[true, true, true, true, true, true, true, true, false, false, false, false, false, false, false, false, false, false, false, false] rfl rfl (any_of HT_.out (by kernel_rfl)) (fun _ _ _ h => h) (Or.inl ⟨by rfl, ?_⟩) ?_ ?_
                      rotate_left
                      · intro w'
                        go_simp
                        with_reducible rfl
                      rotate_left
                      · simp only [Act.put, zA, zB, zC, i64_w, i32_w]
                        rfl
                      refine pure_ (i := 8) (N := some 54) (v := ?_) (a' := ?_) #[true, true, true, true, true, true, true, true, true, false, false, false, false, false, false, false, false, false, false, false] rfl rfl (any_of HT_.out (by kernel_rfl)) (fun _ _ _ h => h) (Or.inl ⟨by rfl, ?_⟩) ?_ ?_
                      rotate_left
                      · intro w'
                        go_simp
                        with_reducible rfl
                      rotate_left
                      · simp only [Act.put, zA, zB, zC, i64_w, i32_w]
                        rfl
                      refine pure_ (i := 9) (N := some 55) (v := ?_) (a' := ?_) #[true, true, true, true, true, true, true, true, true, true, false, false, false, false, false, false, false, false, false, false] rfl rfl (any_of HT_.out (by kernel_rfl)) (fun _ _ _ h => h) (Or.inl ⟨by rfl, ?_⟩) ?_ ?_
                      rotate_left
                      · intro w'
                        go_simp
                        with_reducible rfl
                      rotate_left
                      · simp only [Act.put, zA, zB, zC, i64_w, i32_w]
                        rfl
                      refine pure_ (i := 10) (N := some 56) (v := ?_) (a' := ?_) #[true, true, true, true, true, true, true, true, true, true, true, false, false, false, false, false, false, false, false, false] rfl rfl (any_of HT_.out (by kernel_rfl)) (fun _ _ _ h => h) (Or.inl ⟨by rfl, ?_⟩) ?_ ?_
                      rotate_left
                      · intro w'
                        go_simp
                        with_reducible rfl
                      rotate_left
                      · simp only [Act.put, zA, zB, zC, i64_w, i32_w]
                        rfl
                      refine pure_ (i := 11) (N := some 57) (v := ?_) (a' := ?_) #[true, true, true, true, true, true, true, true, true, true, true, true, false, false, false, false, false, false, false, false] rfl rfl (any_of HT_.out (by kernel_rfl)) (fun _ _ _ h => h) (Or.inl ⟨by rfl, ?_⟩) ?_ ?_
                      rotate_left
                      · intro w'
                        go_simp
                        with_reducible rfl
                      rotate_left
                      · simp only [Act.put, zA, zB, zC, i64_w, i32_w]
                        rfl
                      refine pure_ (i := 12) (N := some 58) (v := ?_) (a' := ?_) #[true, true, true, true, true, true, true, true, true, true, true, true, true, false, false, false, false, false, false, false] rfl rfl (any_of HT_.out (by kernel_rfl)) (fun _ _ _ h => h) (Or.inl ⟨by rfl, ?_⟩) ?_ ?_
                      rotate_left
                      · intro w'
                        go_simp
                        with_reducible rfl
                      rotate_left
                      · simp only [Act.put, zA, zB, zC, i64_w, i32_w]
                        rfl
                      refine pure_ (i := 13) (N := some 59) (v := ?_) (a' := ?_) #[true, true, true, true, true, true, true, true, true, true, true, true, true, true, false, false, false, false, false, false] rfl rfl (any_of HT_.out (by kernel_rfl)) (fun _ _ _ h => h) (Or.inl ⟨by rfl, ?_⟩) ?_ ?_
                      rotate_left
                      · intro w'
                        go_simp
                        with_reducible rfl
                      rotate_left
                      · simp only [Act.put, zA, zB, zC, i64_w, i32_w]
                        rfl
                      refine pure_ (i := 14) (N := some 60) (v := ?_) (a' := ?_) #[true, true, true, true, true, true, true, true, true, true, true, true, true, true, true, false, false, false, false, false] rfl rfl (any_of HT_.out (by kernel_rfl)) (fun _ _ _ h => h) (Or.inl ⟨by rfl, ?_⟩) ?_ ?_
                      rotate_left
                      · intro w'
                        go_simp
                        with_reducible rfl
                      rotate_left
                      · simp only [Act.put, zA, zB, zC, i64_w, i32_w]
                        rfl
                      refine pure_ (i := 15) (N := some 61) (v := ?_) (a' := ?_) #[true, true, true, true, true, true, true, true, true, true, true, true, true, true, true, true, false, false, false, false] rfl rfl (any_of HT_.out (by kernel_rfl)) (fun _ _ _ h => h) (Or.inl ⟨by rfl, ?_⟩) ?_ ?_
                      rotate_left
                      · intro w'
                        go_simp
                        with_reducible rfl
                      rotate_left
                      · simp only [Act.put, zA, zB, zC, i64_w, i32_w]
                        rfl
                      refine pure_ (i := 16) (N := some 62) (v := ?_) (a' := ?_) #[true, true, true, true, true, true, true, true, true, true, true, true, true, true, true, true, true, false, false, false] rfl rfl (any_of HT_.out (by kernel_rfl)) (fun _ _ _ h => h) (Or.inl ⟨by rfl, ?_⟩) ?_ ?_
                      rotate_left
                      · intro w'
                        go_simp
                        with_reducible rfl
                      rotate_left
                      · simp only [Act.put, zA, zB, zC, i64_w, i32_w]
                        rfl
                      refine pure_ (i := 17) (N := some 63) (v := ?_) (a' := ?_) #[true, true, true, true, true, true, true, true, true, true, true, true, true, true, true, true, true, true, false, false] rfl rfl (any_of HT_.out (by kernel_rfl)) (fun _ _ _ h => h) (Or.inl ⟨by rfl, ?_⟩) ?_ ?_
                      rotate_left
                      · intro w'
                        go_simp
                        with_reducible rfl
                      rotate_left
                      · simp only [Act.put, zA, zB, zC, i64_w, i32_w]
                        rfl
                      refine pure_ (i := 18) (N := some 64) (v := ?_) (a' := ?_) #[true, true, true, true, true, true, true, true, true, true, true, true, true, true, true, true, true, true, true, false] rfl rfl (any_of HT_.out (by kernel_rfl)) (fun _ _ _ h => h) (Or.inl ⟨by rfl, ?_⟩) ?_ ?_
                      rotate_left
                      · intro w'
                        go_simp
                        with_reducible rfl
                      rotate_left
                      · simp only [Act.put, zA, zB, zC, i64_w, i32_w]
                        rfl
                      refine pure_ (i := 19) (N := some 15) (v := ?_) (a' := ?_) #[true, true, true, true, true, true, true, true, true, true, true, true, true, true, true, true, true, true, true, true] rfl rfl (any_of HT_.out (by kernel_rfl)) (fun _ _ _ h => h) (Or.inl ⟨by rfl, ?_⟩) ?_ ?_
                      rotate_left
                      · intro w'
                        go_simp
                        with_reducible rfl
                      rotate_left
                      · simp only [Act.put, zA, zB, zC, i64_w, i32_w]
                        rfl
                      refine done_ (done_of HT_.out (by kernel_rfl)) ?_
                      try go_wp2
                      have n0_ := Aside0.mk (blk_drew BK193.out)
                      have n1_ := Aside0.mk (below_drew1 HB.out)
                      clear BK193
                      clear HB
                      have BK193 := n0_
                      have HB := n1_
                      clear n0_ n1_
                      refine start_ (n := 15) (S := fun w' => w'.cell? ⟨gb193, 0, none⟩ = some (.int .i64 a1) ∧ w'.cell? ⟨gb193, 1, none⟩ = some (.int .i64 a0) ∧ w'.cell? ⟨gb193, 2, none⟩ = some (.int .i64 0) ∧ w'.cell? ⟨gb193, 3, none⟩ = some (.int .i64 a2) ∧ w'.cell? ⟨gb193, 4, none⟩ = some (.int .i64 a3)) (ds := []) #[false, false, false, false, false, false, false, false, false, false, false, false, false, false, false] (by kernel_rfl) rfl rfl ⟨(blk_cell BK193.out 0).trans rfl, (blk_cell BK193.out 1).trans rfl, (blk_cell BK193.out 2).trans rfl, (blk_cell BK193.out 3).trans rfl, (blk_cell BK193.out 4).trans rfl⟩ (fun hHeld => ?_); refine with_tabW laws_FnLineOperations.tab6 laws_FnLineOperations.bits6 (fun HT_ HW_ => ?_)
                      generalize w35.drew = w36 at BK193 HB hHeld ⊢
                      refine pure_ (i := 1) (N := some 67) (v := ?_) (a' := ?_) #[false, true, false, false, false, false, false, false, false, false, false, false, false, false, false] rfl rfl (any_of HT_.out (by kernel_rfl)) (fun _ _ _ h => h) (Or.inl ⟨by rfl, ?_⟩) ?_ ?_
                      rotate_left
                      · intro w'
                        go_simp
                        with_reducible rfl
                      rotate_left
                      · simp only [Act.put, zA, zB, zC, i64_w, i32_w]
                        rfl
                      refine pure_ (i := 3) (N := some 69) (v := ?_) (a' := ?_) #[false, true, false, true, false, false, false, false, false, false, false, false, false, false, false] rfl rfl (any_of HT_.out (by kernel_rfl)) (fun _ _ _ h => h) (Or.inl ⟨by rfl, ?_⟩) ?_ ?_
                      rotate_left
                      · intro w'
                        go_simp
                        with_reducible rfl
                      rotate_left
                      · simp only [Act.put, zA, zB, zC, i64_w, i32_w]
                        rfl
                      refine pure_ (i := 4) (N := some 70) (v := ?_) (a' := ?_) #[false, true, false, true, true, false, false, false, false, false, false, false, false, false, false] rfl rfl (any_of HT_.out (by kernel_rfl)) (fun _ _ _ h => h) (Or.inl ⟨by rfl, ?_⟩) ?_ ?_
                      rotate_left
                      · intro w'
                        go_simp
                        with_reducible rfl
                      rotate_left
                      · simp only [Act.put, zA, zB, zC, i64_w, i32_w]
                        rfl
                      refine take_ (i := 0) (N := some 66) (v := ?_) (a' := ?_) #[true, true, false, true, true, false, false, false, false, false, false, false, false, false, false] rfl rfl (take_ofW HT_.out HW_.out (by kernel_rfl)) (fun _ _ _ h => h) (Or.inl ⟨by rfl, ?_⟩) hHeld ?_ ?_
                      rotate_left
                      · rintro w' ⟨s0, s1, s2, s3, s4⟩
                        go_simp
                        with_reducible rfl
                      rotate_left
                      · simp only [Act.put, zA, zB, zC, i64_w, i32_w]
                        rfl
                      refine join_ (σ := Value × Value × Value × Value) 7 #[true, true, true, true, true, true, true, true, false, false, false, false, false, false, false] (fun s_ => [(68, s_.1), (71, s_.2.1), (72, s_.2.2.1), (73, s_.2.2.2)]) (fun s_ w' => (w'.cell? ⟨gb193, 0, none⟩ = some (.int .i64 a1) ∧ w'.cell? ⟨gb193, 1, none⟩ = some (.int .i64 a0) ∧ w'.cell? ⟨gb193, 2, none⟩ = some (.int .i64 0) ∧ w'.cell? ⟨gb193, 3, none⟩ = some (.int .i64 a2) ∧ w'.cell? ⟨gb193, 4, none⟩ = some (.int .i64 a3)) ∧ (Kd.R (Kd.int .u8) 5 w' w.heap.size (fun k_ => some k_ ≠ (s_.2.2.1 : Value).ownBlock ∧ some k_ ≠ (s_.2.2.2 : Value).ownBlock) s_.2.1 t198) ∧ (Kd.R (Kd.int .u8) 5 w' w.heap.size (fun k_ => some k_ ≠ (s_.2.1 : Value).ownBlock ∧ some k_ ≠ (s_.2.2.2 : Value).ownBlock) s_.2.2.1 y201) ∧ (Kd.R (Kd.int .u8) 5 w' w.heap.size (fun k_ => some k_ ≠ (s_.2.1 : Value).ownBlock ∧ some k_ ≠ (s_.2.2.1 : Value).ownBlock) s_.2.2.2 y204) ∧ (w'.heap[gb193]? = some (.cells #[.int .i64 a1, .int .i64 a0, .int .i64 0, .int .i64 a2, .int .i64 a3] 31 (0, 0))) ∧ (Below w.heap.size w w')) ?_ ?_
                      rotate_left
                      · intro hJ2_5_6_7
                        refine join_ (σ := Value × Value × Value) 8 #[true, true, true, true, true, true, true, false, false, false, false, false, false, false, false] (fun s_ => [(68, s_.1), (71, s_.2.1), (72, s_.2.2)]) (fun s_ w' => (w'.cell? ⟨gb193, 0, none⟩ = some (.int .i64 a1) ∧ w'.cell? ⟨gb193, 1, none⟩ = some (.int .i64 a0) ∧ w'.cell? ⟨gb193, 2, none⟩ = some (.int .i64 0) ∧ w'.cell? ⟨gb193, 3, none⟩ = some (.int .i64 a2) ∧ w'.cell? ⟨gb193, 4, none⟩ = some (.int .i64 a3)) ∧ (Kd.R (Kd.int .u8) 5 w' w.heap.size (fun k_ => some k_ ≠ (s_.2.2 : Value).ownBlock) s_.2.1 t198) ∧ (Kd.R (Kd.int .u8) 5 w' w.heap.size (fun k_ => some k_ ≠ (s_.2.1 : Value).ownBlock) s_.2.2 y201) ∧ (w'.heap[gb193]? = some (.cells #[.int .i64 a1, .int .i64 a0, .int .i64 0, .int .i64 a2, .int .i64 a3] 31 (0, 0))) ∧ (Below w.heap.size w w')) ?_ ?_
                        rotate_left
                        · intro hJ2_5_6
                          refine join_ (σ := Value × Value × Value) 8 #[true, true, true, true, true, true, false, true, false, false, false, false, false, false, false] (fun s_ => [(68, s_.1), (71, s_.2.1), (73, s_.2.2)]) (fun s_ w' => (w'.cell? ⟨gb193, 0, none⟩ = some (.int .i64 a1) ∧ w'.cell? ⟨gb193, 1, none⟩ = some (.int .i64 a0) ∧ w'.cell? ⟨gb193, 2, none⟩ = some (.int .i64 0) ∧ w'.cell? ⟨gb193, 3, none⟩ = some (.int .i64 a2) ∧ w'.cell? ⟨gb193, 4, none⟩ = some (.int .i64 a3)) ∧ (Kd.R (Kd.int .u8) 5 w' w.heap.size (fun k_ => some k_ ≠ (s_.2.1 : Value).ownBlock ∧ some k_ ≠ (s_.2.2 : Value).ownBlock) s_.1 y195) ∧ (Kd.R (Kd.int .u8) 5 w' w.heap.size (fun k_ => some k_ ≠ (s_.1 : Value).ownBlock ∧ some k_ ≠ (s_.2.2 : Value).ownBlock) s_.2.1 t198) ∧ (Kd.R (Kd.int .u8) 5 w' w.heap.size (fun k_ => some k_ ≠ (s_.1 : Value).ownBlock ∧ some k_ ≠ (s_.2.1 : Value).ownBlock) s_.2.2 y204) ∧ (w'.heap[gb193]? = some (.cells #[.int .i64 a1, .int .i64 a0, .int .i64 0, .int .i64 a2, .int .i64 a3] 31 (0, 0))) ∧ (Below w.heap.size w w')) ?_ ?_
                          rotate_left
                          · intro hJ2_5_7
                            refine join_ (σ := Value × Value) 9 #[true, true, true, true, true, true, false, false, false, false, false, false, false, false, false] (fun s_ => [(68, s_.1), (71, s_.2)]) (fun s_ w' => (w'.cell? ⟨gb193, 0, none⟩ = some (.int .i64 a1) ∧ w'.cell? ⟨gb193, 1, none⟩ = some (.int .i64 a0) ∧ w'.cell? ⟨gb193, 2, none⟩ = some (.int .i64 0) ∧ w'.cell? ⟨gb193, 3, none⟩ = some (.int .i64 a2) ∧ w'.cell? ⟨gb193, 4, none⟩ = some (.int .i64 a3)) ∧ (Kd.R (Kd.int .u8) 5 w' w.heap.size (fun k_ => some k_ ≠ (s_.2 : Value).ownBlock) s_.1 y195) ∧ (Kd.R (Kd.int .u8) 5 w' w.heap.size (fun k_ => some k_ ≠ (s_.1 : Value).ownBlock) s_.2 t198) ∧ (w'.heap[gb193]? = some (.cells #[.int .i64 a1, .int .i64 a0, .int .i64 0, .int .i64 a2, .int .i64 a3] 31 (0, 0))) ∧ (Below w.heap.size w w')) ?_ ?_
                            rotate_left
                            · intro hJ2_5
                              refine join_ (σ := Value × Value) 9 #[true, true, true, true, true, false, false, true, false, false, false, false, false, false, false] (fun s_ => [(68, s_.1), (73, s_.2)]) (fun s_ w' => (w'.cell? ⟨gb193, 0, none⟩ = some (.int .i64 a1) ∧ w'.cell? ⟨gb193, 1, none⟩ = some (.int .i64 a0) ∧ w'.cell? ⟨gb193, 2, none⟩ = some (.int .i64 0) ∧ w'.cell? ⟨gb193, 3, none⟩ = some (.int .i64 a2) ∧ w'.cell? ⟨gb193, 4, none⟩ = some (.int .i64 a3)) ∧ (Kd.R (Kd.int .u8) 5 w' w.heap.size (fun k_ => some k_ ≠ (s_.2 : Value).ownBlock) s_.1 y195) ∧ (Kd.R (Kd.int .u8) 5 w' w.heap.size (fun k_ => some k_ ≠ (s_.1 : Value).ownBlock) s_.2 y204) ∧ (w'.heap[gb193]? = some (.cells #[.int .i64 a1, .int .i64 a0, .int .i64 0, .int .i64 a2, .int .i64 a3] 31 (0, 0))) ∧ (Below w.heap.size w w')) ?_ ?_
                              rotate_left
                              · intro hJ2_7
                                refine join_ (σ := Value × Value) 9 #[true, true, false, true, true, true, false, true, false, false, false, false, false, false, false] (fun s_ => [(71, s_.1), (73, s_.2)]) (fun s_ w' => (w'.cell? ⟨gb193, 0, none⟩ = some (.int .i64 a1) ∧ w'.cell? ⟨gb193, 1, none⟩ = some (.int .i64 a0) ∧ w'.cell? ⟨gb193, 2, none⟩ = some (.int .i64 0) ∧ w'.cell? ⟨gb193, 3, none⟩ = some (.int .i64 a2) ∧ w'.cell? ⟨gb193, 4, none⟩ = some (.int .i64 a3)) ∧ (Kd.R (Kd.int .u8) 5 w' w.heap.size (fun k_ => some k_ ≠ (s_.2 : Value).ownBlock) s_.1 t198) ∧ (Kd.R (Kd.int .u8) 5 w' w.heap.size (fun k_ => some k_ ≠ (s_.1 : Value).ownBlock) s_.2 y204) ∧ (w'.heap[gb193]? = some (.cells #[.int .i64 a1, .int .i64 a0, .int .i64 0, .int .i64 a2, .int .i64 a3] 31 (0, 0))) ∧ (Below w.heap.size w w')) ?_ ?_
                                rotate_left
                                · intro hJ5_7
                                  refine join_ (σ := Value) 10 #[true, true, true, true, true, false, false, false, false, false, false, false, false, false, false] (fun s_ => [(68, s_)]) (fun s_ w' => (w'.cell? ⟨gb193, 0, none⟩ = some (.int .i64 a1) ∧ w'.cell? ⟨gb193, 1, none⟩ = some (.int .i64 a0) ∧ w'.cell? ⟨gb193, 2, none⟩ = some (.int .i64 0) ∧ w'.cell? ⟨gb193, 3, none⟩ = some (.int .i64 a2) ∧ w'.cell? ⟨gb193, 4, none⟩ = some (.int .i64 a3)) ∧ (Kd.R (Kd.int .u8) 5 w' w.heap.size (fun _ => True) s_ y195) ∧ (w'.heap[gb193]? = some (.cells #[.int .i64 a1, .int .i64 a0, .int .i64 0, .int .i64 a2, .int .i64 a3] 31 (0, 0))) ∧ (Below w.heap.size w w')) ?_ ?_
                                  rotate_left
                                  · intro hJ2
                                    refine join_ (σ := Value) 10 #[true, true, false, true, true, true, false, false, false, false, false, false, false, false, false] (fun s_ => [(71, s_)]) (fun s_ w' => (w'.cell? ⟨gb193, 0, none⟩ = some (.int .i64 a1) ∧ w'.cell? ⟨gb193, 1, none⟩ = some (.int .i64 a0) ∧ w'.cell? ⟨gb193, 2, none⟩ = some (.int .i64 0) ∧ w'.cell? ⟨gb193, 3, none⟩ = some (.int .i64 a2) ∧ w'.cell? ⟨gb193, 4, none⟩ = some (.int .i64 a3)) ∧ (Kd.R (Kd.int .u8) 5 w' w.heap.size (fun _ => True) s_ t198) ∧ (w'.heap[gb193]? = some (.cells #[.int .i64 a1, .int .i64 a0, .int .i64 0, .int .i64 a2, .int .i64 a3] 31 (0, 0))) ∧ (Below w.heap.size w w')) ?_ ?_
                                    rotate_left
                                    · intro hJ5
                                      refine join_ (σ := Value) 10 #[true, true, false, true, true, false, false, true, false, false, false, false, false, false, false] (fun s_ => [(73, s_)]) (fun s_ w' => (w'.cell? ⟨gb193, 0, none⟩ = some (.int .i64 a1) ∧ w'.cell? ⟨gb193, 1, none⟩ = some (.int .i64 a0) ∧ w'.cell? ⟨gb193, 2, none⟩ = some (.int .i64 0) ∧ w'.cell? ⟨gb193, 3, none⟩ = some (.int .i64 a2) ∧ w'.cell? ⟨gb193, 4, none⟩ = some (.int .i64 a3)) ∧ (Kd.R (Kd.int .u8) 5 w' w.heap.size (fun _ => True) s_ y204) ∧ (w'.heap[gb193]? = some (.cells #[.int .i64 a1, .int .i64 a0, .int .i64 0, .int .i64 a2, .int .i64 a3] 31 (0, 0))) ∧ (Below w.heap.size w w')) ?_ ?_
                                      rotate_left
                                      · intro hJ7
                                        refine three_ (i := 2) (j := 5) (k := 7) (Ni := some 68) (Nj := some 71) (Nk := some 73) #[true, true, true, true, true, false, false, false, false, false, false, false, false, false, false] #[true, true, false, true, true, true, false, false, false, false, false, false, false, false, false] #[true, true, false, true, true, false, false, true, false, false, false, false, false, false, false] rfl rfl rfl rfl rfl rfl (three_of HT_.out (by kernel_rfl)) (by decide) (by decide) (by decide) (fun K hK => ?_) (fun K hK => ?_) (fun K hK => ?_)
                                        · skip
                                          refine Kd.R_lit_step (Kd.int .u8) _ 5 ?hg (N := 68) ?hd (xs := ([2] : List Int)) (inner := [.int .u8 2]) (ok := fun _ => True) (okp := fun _ => True) ?hr ?hp (fun _ hk => hk) trivial (Below.refl _ _) (Nat.le_refl _) (by simp) ?_; (case hd => rfl); (case hg => rfl); (case hr => first | (go_simp; done) | (go_simp; rfl)); (case hp => exact (Reps.one (show Kd.M (Kd.int .u8) _ _ _ 2 [.int .u8 2] from rfl) (Reps.none _ _)))
                                          intro v196 w37 ho38 hb hg_ hnew_
                                          clear hg_ hnew_
                                          (first | rw [← Ny195.out] at ho38 | (simp only [Int.reduceToNat] at ho38; rw [← Ny195.out] at ho38))
                                          have n0_ := Aside0.mk (Kd.R_lower ho38 (below_size (qG GE193.out)))
                                          have n1_ := Aside0.mk (blk_below (g := gb193) (o := .cells #[.int .i64 a1, .int .i64 a0, .int .i64 0, .int .i64 a2, .int .i64 a3] 31 (0, 0)) (qK BK193.out) hb)
                                          have n2_ := Aside0.mk (below_step (qG GE193.out) hb)
                                          clear BK193
                                          clear HB
                                          have HO197 := n0_
                                          have BK193 := n1_
                                          have HB := n2_
                                          clear n0_ n1_ n2_
                                          clear hb ho38
                                          refine hK.out _ _ ⟨(blk_cell BK193.out 0).trans rfl, (blk_cell BK193.out 1).trans rfl, (blk_cell BK193.out 2).trans rfl, (blk_cell BK193.out 3).trans rfl, (blk_cell BK193.out 4).trans rfl⟩ (fun hHeld => ?_)
                                          clear hK K
                                          refine norm_ (a' := ?_) ?_ ?_
                                          rotate_left
                                          · show Act.put _ (some 68) _ = _
                                            simp only [Act.put, zA, zB, zC, i64_w, i32_w]
                                            rfl
                                          exact norm_ qN (hJ2 (v196) _ ⟨hHeld, (qR HO197.out), (qK BK193.out), (qG GE193.out)⟩)
                                        · skip
                                          refine goes_ Tryd.func13 (by kernel_rfl) rfl #[.int .u64 (IntKind.u64.wrap (a4)), .int .i64 0] (by rfl) rfl rfl qL ?_
                                          with_reducible refine (spec_Unsigned.calls kj6 (IntKind.u64.wrap (a4)) 0 t198 _ A28.out).mono ?_
                                          rintro e w37 ⟨v199, rfl, ho0, hb⟩
                                          refine ⟨_, rfl, ?_⟩
                                          have n0_ := Aside0.mk (Kd.R_lower ho0 (below_size (qG GE193.out)))
                                          have n1_ := Aside0.mk (blk_below (g := gb193) (o := .cells #[.int .i64 a1, .int .i64 a0, .int .i64 0, .int .i64 a2, .int .i64 a3] 31 (0, 0)) (qK BK193.out) hb)
                                          have n2_ := Aside0.mk (below_step (qG GE193.out) hb)
                                          clear BK193
                                          clear HB
                                          have HO200 := n0_
                                          have BK193 := n1_
                                          have HB := n2_
                                          clear n0_ n1_ n2_
                                          (try clear hb)
                                          (try clear hb2)
                                          (try clear hk)
                                          (try clear hi)
                                          (try clear ho0)
                                          refine hK.out _ _ ⟨(blk_cell BK193.out 0).trans rfl, (blk_cell BK193.out 1).trans rfl, (blk_cell BK193.out 2).trans rfl, (blk_cell BK193.out 3).trans rfl, (blk_cell BK193.out 4).trans rfl⟩ (fun hHeld => ?_)
                                          clear hK K
                                          refine norm_ (a' := ?_) ?_ ?_
                                          rotate_left
                                          · show Act.put _ (some 71) _ = _
                                            simp only [Act.put, zA, zB, zC, i64_w, i32_w]
                                            rfl
                                          exact norm_ qN (hJ5 (v199) _ ⟨hHeld, (qR HO200.out), (qK BK193.out), (qG GE193.out)⟩)
                                        · skip
                                          refine Kd.R_lit_step (Kd.int .u8) _ 5 ?hg (N := 73) ?hd (xs := ([8, 1] : List Int)) (inner := [.int .u8 8, .int .u8 1]) (ok := fun _ => True) (okp := fun _ => True) ?hr ?hp (fun _ hk => hk) trivial (Below.refl _ _) (Nat.le_refl _) (by simp) ?_; (case hd => rfl); (case hg => rfl); (case hr => first | (go_simp; done) | (go_simp; rfl)); (case hp => exact (Reps.one (show Kd.M (Kd.int .u8) _ _ _ 8 [.int .u8 8] from rfl) (Reps.one (show Kd.M (Kd.int .u8) _ _ _ 1 [.int .u8 1] from rfl) (Reps.none _ _))))
                                          intro v205 w37 ho38 hb hg_ hnew_
                                          clear hg_ hnew_
                                          (first | rw [← Ny204.out] at ho38 | (simp only [Int.reduceToNat] at ho38; rw [← Ny204.out] at ho38))
                                          have n0_ := Aside0.mk (Kd.R_lower ho38 (below_size (qG GE193.out)))
                                          have n1_ := Aside0.mk (blk_below (g := gb193) (o := .cells #[.int .i64 a1, .int .i64 a0, .int .i64 0, .int .i64 a2, .int .i64 a3] 31 (0, 0)) (qK BK193.out) hb)
                                          have n2_ := Aside0.mk (below_step (qG GE193.out) hb)
                                          clear BK193
                                          clear HB
                                          have HO206 := n0_
                                          have BK193 := n1_
                                          have HB := n2_
                                          clear n0_ n1_ n2_
                                          clear hb ho38
                                          refine hK.out _ _ ⟨(blk_cell BK193.out 0).trans rfl, (blk_cell BK193.out 1).trans rfl, (blk_cell BK193.out 2).trans rfl, (blk_cell BK193.out 3).trans rfl, (blk_cell BK193.out 4).trans rfl⟩ (fun hHeld => ?_)
                                          clear hK K
                                          refine norm_ (a' := ?_) ?_ ?_
                                          rotate_left
                                          · show Act.put _ (some 73) _ = _
                                            simp only [Act.put, zA, zB, zC, i64_w, i32_w]
                                            rfl
                                          exact norm_ qN (hJ7 (v205) _ ⟨hHeld, (qR HO206.out), (qK BK193.out), (qG GE193.out)⟩)
                                      · skip
                                        rintro v205 w39 ⟨hS_, h0_, h1_, h2_⟩
                                        have n0_ : Aside0 (Kd.R (Kd.int .u8) 5 w39 w.heap.size (fun _ => True) v205 y204) := ⟨h0_⟩
                                        have n1_ : Aside0 (w39.heap[gb193]? = some (.cells #[.int .i64 a1, .int .i64 a0, .int .i64 0, .int .i64 a2, .int .i64 a3] 31 (0, 0))) := ⟨h1_⟩
                                        have n2_ : Aside0 (Below w.heap.size w w39) := ⟨h2_⟩
                                        clear BK193
                                        clear HB
                                        clear h0_ h1_ h2_
                                        have HO206 := n0_
                                        have BK193 := n1_
                                        have HB := n2_
                                        clear n0_ n1_ n2_
                                        have hHeld : w39.cell? ⟨gb193, 0, none⟩ = some (.int .i64 a1) ∧ w39.cell? ⟨gb193, 1, none⟩ = some (.int .i64 a0) ∧ w39.cell? ⟨gb193, 2, none⟩ = some (.int .i64 0) ∧ w39.cell? ⟨gb193, 3, none⟩ = some (.int .i64 a2) ∧ w39.cell? ⟨gb193, 4, none⟩ = some (.int .i64 a3) := hS_
                                        refine norm_ (a' := ?_) ?_ ?_
                                        rotate_left
                                        · simp only [putAll, Act.put, zA, zB, zC]
                                          rfl
                                        refine two_ (i := 2) (j := 5) (Ni := some 68) (Nj := some 71) #[true, true, true, true, true, false, false, true, false, false, false, false, false, false, false] #[true, true, false, true, true, true, false, true, false, false, false, false, false, false, false] rfl rfl rfl rfl (two_of HT_.out (by kernel_rfl)) (by decide) (by decide) (fun K hK => ?_) (fun K hK => ?_)
                                        · skip
                                          refine Kd.R_lit_step (Kd.int .u8) _ 5 ?hg (N := 68) ?hd (xs := ([2] : List Int)) (inner := [.int .u8 2]) (ok := fun _ => True) (okp := fun _ => True) ?hr ?hp (fun _ hk => hk) trivial (Below.refl _ _) (Nat.le_refl _) (by simp) ?_; (case hd => rfl); (case hg => rfl); (case hr => first | (go_simp; done) | (go_simp; rfl)); (case hp => exact (Reps.one (show Kd.M (Kd.int .u8) _ _ _ 2 [.int .u8 2] from rfl) (Reps.none _ _)))
                                          intro v196 w40 ho41 hb hg_ hnew_
                                          clear hg_ hnew_
                                          (first | rw [← Ny195.out] at ho41 | (simp only [Int.reduceToNat] at ho41; rw [← Ny195.out] at ho41))
                                          have n0_ := Aside0.mk (Kd.R_elder' (qR HO206.out) (Kd.R_base ho41) hb)
                                          have n1_ := Aside0.mk (Kd.R_lower (Kd.R_new' ho41 (Kd.R_lt (qR HO206.out))) (below_size (qG GE193.out)))
                                          have n2_ := Aside0.mk (blk_below (g := gb193) (o := .cells #[.int .i64 a1, .int .i64 a0, .int .i64 0, .int .i64 a2, .int .i64 a3] 31 (0, 0)) (qK BK193.out) hb)
                                          have n3_ := Aside0.mk (below_step (qG GE193.out) hb)
                                          clear HO206
                                          clear BK193
                                          clear HB
                                          have HO206 := n0_
                                          have HO197 := n1_
                                          have BK193 := n2_
                                          have HB := n3_
                                          clear n0_ n1_ n2_ n3_
                                          clear hb ho41
                                          refine hK.out _ _ ⟨(blk_cell BK193.out 0).trans rfl, (blk_cell BK193.out 1).trans rfl, (blk_cell BK193.out 2).trans rfl, (blk_cell BK193.out 3).trans rfl, (blk_cell BK193.out 4).trans rfl⟩ (fun hHeld => ?_)
                                          clear hK K
                                          refine norm_ (a' := ?_) ?_ ?_
                                          rotate_left
                                          · show Act.put _ (some 68) _ = _
                                            simp only [Act.put, zA, zB, zC, i64_w, i32_w]
                                            rfl
                                          exact norm_ qN (hJ2_7 (v196, v205) _ ⟨hHeld, (by (with_reducible repeat (first | apply Kd.R_alloc | apply Kd.R_drewN | apply Kd.R_drew)); exact Kd.R_mono HO197.out (fun _ hk => hk.2)), (by (with_reducible repeat (first | apply Kd.R_alloc | apply Kd.R_drewN | apply Kd.R_drew)); exact Kd.R_mono HO206.out (fun _ hk => hk.2)), (qK BK193.out), (qG GE193.out)⟩)
                                        · skip
                                          refine goes_ Tryd.func13 (by kernel_rfl) rfl #[.int .u64 (IntKind.u64.wrap (a4)), .int .i64 0] (by rfl) rfl rfl qL ?_
                                          with_reducible refine (spec_Unsigned.calls kj6 (IntKind.u64.wrap (a4)) 0 t198 _ A28.out).mono ?_
                                          rintro e w40 ⟨v199, rfl, ho0, hb⟩
                                          refine ⟨_, rfl, ?_⟩
                                          have n0_ := Aside0.mk (Kd.R_elder' (qR HO206.out) (Kd.R_base ho0) hb)
                                          have n1_ := Aside0.mk (Kd.R_lower (Kd.R_new' ho0 (Kd.R_lt (qR HO206.out))) (below_size (qG GE193.out)))
                                          have n2_ := Aside0.mk (blk_below (g := gb193) (o := .cells #[.int .i64 a1, .int .i64 a0, .int .i64 0, .int .i64 a2, .int .i64 a3] 31 (0, 0)) (qK BK193.out) hb)
                                          have n3_ := Aside0.mk (below_step (qG GE193.out) hb)
                                          clear HO206
                                          clear BK193
                                          clear HB
                                          have HO206 := n0_
                                          have HO200 := n1_
                                          have BK193 := n2_
                                          have HB := n3_
                                          clear n0_ n1_ n2_ n3_
                                          (try clear hb)
                                          (try clear hb2)
                                          (try clear hk)
                                          (try clear hi)
                                          (try clear ho0)
                                          refine hK.out _ _ ⟨(blk_cell BK193.out 0).trans rfl, (blk_cell BK193.out 1).trans rfl, (blk_cell BK193.out 2).trans rfl, (blk_cell BK193.out 3).trans rfl, (blk_cell BK193.out 4).trans rfl⟩ (fun hHeld => ?_)
                                          clear hK K
                                          refine norm_ (a' := ?_) ?_ ?_
                                          rotate_left
                                          · show Act.put _ (some 71) _ = _
                                            simp only [Act.put, zA, zB, zC, i64_w, i32_w]
                                            rfl
                                          exact norm_ qN (hJ5_7 (v199, v205) _ ⟨hHeld, (by (with_reducible repeat (first | apply Kd.R_alloc | apply Kd.R_drewN | apply Kd.R_drew)); exact Kd.R_mono HO200.out (fun _ hk => hk.2)), (by (with_reducible repeat (first | apply Kd.R_alloc | apply Kd.R_drewN | apply Kd.R_drew)); exact Kd.R_mono HO206.out (fun _ hk => hk.2)), (qK BK193.out), (qG GE193.out)⟩)
                                    · skip
                                      rintro v199 w38 ⟨hS_, h0_, h1_, h2_⟩
                                      have n0_ : Aside0 (Kd.R (Kd.int .u8) 5 w38 w.heap.size (fun _ => True) v199 t198) := ⟨h0_⟩
                                      have n1_ : Aside0 (w38.heap[gb193]? = some (.cells #[.int .i64 a1, .int .i64 a0, .int .i64 0, .int .i64 a2, .int .i64 a3] 31 (0, 0))) := ⟨h1_⟩
                                      have n2_ : Aside0 (Below w.heap.size w w38) := ⟨h2_⟩
                                      clear BK193
                                      clear HB
                                      clear h0_ h1_ h2_
                                      have HO200 := n0_
                                      have BK193 := n1_
                                      have HB := n2_
                                      clear n0_ n1_ n2_
                                      have hHeld : w38.cell? ⟨gb193, 0, none⟩ = some (.int .i64 a1) ∧ w38.cell? ⟨gb193, 1, none⟩ = some (.int .i64 a0) ∧ w38.cell? ⟨gb193, 2, none⟩ = some (.int .i64 0) ∧ w38.cell? ⟨gb193, 3, none⟩ = some (.int .i64 a2) ∧ w38.cell? ⟨gb193, 4, none⟩ = some (.int .i64 a3) := hS_
                                      refine norm_ (a' := ?_) ?_ ?_
                                      rotate_left
                                      · simp only [putAll, Act.put, zA, zB, zC]
                                        rfl
                                      refine two_ (i := 2) (j := 7) (Ni := some 68) (Nj := some 73) #[true, true, true, true, true, true, false, false, false, false, false, false, false, false, false] #[true, true, false, true, true, true, false, true, false, false, false, false, false, false, false] rfl rfl rfl rfl (two_of HT_.out (by kernel_rfl)) (by decide) (by decide) (fun K hK => ?_) (fun K hK => ?_)
                                      · skip
                                        refine Kd.R_lit_step (Kd.int .u8) _ 5 ?hg (N := 68) ?hd (xs := ([2] : List Int)) (inner := [.int .u8 2]) (ok := fun _ => True) (okp := fun _ => True) ?hr ?hp (fun _ hk => hk) trivial (Below.refl _ _) (Nat.le_refl _) (by simp) ?_; (case hd => rfl); (case hg => rfl); (case hr => first | (go_simp; done) | (go_simp; rfl)); (case hp => exact (Reps.one (show Kd.M (Kd.int .u8) _ _ _ 2 [.int .u8 2] from rfl) (Reps.none _ _)))
                                        intro v196 w39 ho40 hb hg_ hnew_
                                        clear hg_ hnew_
                                        (first | rw [← Ny195.out] at ho40 | (simp only [Int.reduceToNat] at ho40; rw [← Ny195.out] at ho40))
                                        have n0_ := Aside0.mk (Kd.R_elder' (qR HO200.out) (Kd.R_base ho40) hb)
                                        have n1_ := Aside0.mk (Kd.R_lower (Kd.R_new' ho40 (Kd.R_lt (qR HO200.out))) (below_size (qG GE193.out)))
                                        have n2_ := Aside0.mk (blk_below (g := gb193) (o := .cells #[.int .i64 a1, .int .i64 a0, .int .i64 0, .int .i64 a2, .int .i64 a3] 31 (0, 0)) (qK BK193.out) hb)
                                        have n3_ := Aside0.mk (below_step (qG GE193.out) hb)
                                        clear HO200
                                        clear BK193
                                        clear HB
                                        have HO200 := n0_
                                        have HO197 := n1_
                                        have BK193 := n2_
                                        have HB := n3_
                                        clear n0_ n1_ n2_ n3_
                                        clear hb ho40
                                        refine hK.out _ _ ⟨(blk_cell BK193.out 0).trans rfl, (blk_cell BK193.out 1).trans rfl, (blk_cell BK193.out 2).trans rfl, (blk_cell BK193.out 3).trans rfl, (blk_cell BK193.out 4).trans rfl⟩ (fun hHeld => ?_)
                                        clear hK K
                                        refine norm_ (a' := ?_) ?_ ?_
                                        rotate_left
                                        · show Act.put _ (some 68) _ = _
                                          simp only [Act.put, zA, zB, zC, i64_w, i32_w]
                                          rfl
                                        exact norm_ qN (hJ2_5 (v196, v199) _ ⟨hHeld, (by (with_reducible repeat (first | apply Kd.R_alloc | apply Kd.R_drewN | apply Kd.R_drew)); exact Kd.R_mono HO197.out (fun _ hk => hk.2)), (by (with_reducible repeat (first | apply Kd.R_alloc | apply Kd.R_drewN | apply Kd.R_drew)); exact Kd.R_mono HO200.out (fun _ hk => hk.2)), (qK BK193.out), (qG GE193.out)⟩)
                                      · skip
                                        refine Kd.R_lit_step (Kd.int .u8) _ 5 ?hg (N := 73) ?hd (xs := ([8, 1] : List Int)) (inner := [.int .u8 8, .int .u8 1]) (ok := fun _ => True) (okp := fun _ => True) ?hr ?hp (fun _ hk => hk) trivial (Below.refl _ _) (Nat.le_refl _) (by simp) ?_; (case hd => rfl); (case hg => rfl); (case hr => first | (go_simp; done) | (go_simp; rfl)); (case hp => exact (Reps.one (show Kd.M (Kd.int .u8) _ _ _ 8 [.int .u8 8] from rfl) (Reps.one (show Kd.M (Kd.int .u8) _ _ _ 1 [.int .u8 1] from rfl) (Reps.none _ _))))
                                        intro v205 w39 ho40 hb hg_ hnew_
                                        clear hg_ hnew_
                                        (first | rw [← Ny204.out] at ho40 | (simp only [Int.reduceToNat] at ho40; rw [← Ny204.out] at ho40))
                                        have n0_ := Aside0.mk (Kd.R_elder' (qR HO200.out) (Kd.R_base ho40) hb)
                                        have n1_ := Aside0.mk (Kd.R_lower (Kd.R_new' ho40 (Kd.R_lt (qR HO200.out))) (below_size (qG GE193.out)))
                                        have n2_ := Aside0.mk (blk_below (g := gb193) (o := .cells #[.int .i64 a1, .int .i64 a0, .int .i64 0, .int .i64 a2, .int .i64 a3] 31 (0, 0)) (qK BK193.out) hb)
                                        have n3_ := Aside0.mk (below_step (qG GE193.out) hb)
                                        clear HO200
                                        clear BK193
                                        clear HB
                                        have HO200 := n0_
                                        have HO206 := n1_
                                        have BK193 := n2_
                                        have HB := n3_
                                        clear n0_ n1_ n2_ n3_
                                        clear hb ho40
                                        refine hK.out _ _ ⟨(blk_cell BK193.out 0).trans rfl, (blk_cell BK193.out 1).trans rfl, (blk_cell BK193.out 2).trans rfl, (blk_cell BK193.out 3).trans rfl, (blk_cell BK193.out 4).trans rfl⟩ (fun hHeld => ?_)
                                        clear hK K
                                        refine norm_ (a' := ?_) ?_ ?_
                                        rotate_left
                                        · show Act.put _ (some 73) _ = _
                                          simp only [Act.put, zA, zB, zC, i64_w, i32_w]
                                          rfl
                                        exact norm_ qN (hJ5_7 (v199, v205) _ ⟨hHeld, (by (with_reducible repeat (first | apply Kd.R_alloc | apply Kd.R_drewN | apply Kd.R_drew)); exact Kd.R_mono HO200.out (fun _ hk => hk.2)), (by (with_reducible repeat (first | apply Kd.R_alloc | apply Kd.R_drewN | apply Kd.R_drew)); exact Kd.R_mono HO206.out (fun _ hk => hk.2)), (qK BK193.out), (qG GE193.out)⟩)
                                  · skip
                                    rintro v196 w39 ⟨hS_, h0_, h1_, h2_⟩
                                    have n0_ : Aside0 (Kd.R (Kd.int .u8) 5 w39 w.heap.size (fun _ => True) v196 y195) := ⟨h0_⟩
                                    have n1_ : Aside0 (w39.heap[gb193]? = some (.cells #[.int .i64 a1, .int .i64 a0, .int .i64 0, .int .i64 a2, .int .i64 a3] 31 (0, 0))) := ⟨h1_⟩
                                    have n2_ : Aside0 (Below w.heap.size w w39) := ⟨h2_⟩
                                    clear BK193
                                    clear HB
                                    clear h0_ h1_ h2_
                                    have HO197 := n0_
                                    have BK193 := n1_
                                    have HB := n2_
                                    clear n0_ n1_ n2_
                                    have hHeld : w39.cell? ⟨gb193, 0, none⟩ = some (.int .i64 a1) ∧ w39.cell? ⟨gb193, 1, none⟩ = some (.int .i64 a0) ∧ w39.cell? ⟨gb193, 2, none⟩ = some (.int .i64 0) ∧ w39.cell? ⟨gb193, 3, none⟩ = some (.int .i64 a2) ∧ w39.cell? ⟨gb193, 4, none⟩ = some (.int .i64 a3) := hS_
                                    refine norm_ (a' := ?_) ?_ ?_
                                    rotate_left
                                    · simp only [putAll, Act.put, zA, zB, zC]
                                      rfl
                                    refine two_ (i := 5) (j := 7) (Ni := some 71) (Nj := some 73) #[true, true, true, true, true, true, false, false, false, false, false, false, false, false, false] #[true, true, true, true, true, false, false, true, false, false, false, false, false, false, false] rfl rfl rfl rfl (two_of HT_.out (by kernel_rfl)) (by decide) (by decide) (fun K hK => ?_) (fun K hK => ?_)
                                    · skip
                                      refine goes_ Tryd.func13 (by kernel_rfl) rfl #[.int .u64 (IntKind.u64.wrap (a4)), .int .i64 0] (by rfl) rfl rfl qL ?_
                                      with_reducible refine (spec_Unsigned.calls kj6 (IntKind.u64.wrap (a4)) 0 t198 _ A28.out).mono ?_
                                      rintro e w40 ⟨v199, rfl, ho0, hb⟩
                                      refine ⟨_, rfl, ?_⟩
                                      have n0_ := Aside0.mk (Kd.R_elder' (qR HO197.out) (Kd.R_base ho0) hb)
                                      have n1_ := Aside0.mk (Kd.R_lower (Kd.R_new' ho0 (Kd.R_lt (qR HO197.out))) (below_size (qG GE193.out)))
                                      have n2_ := Aside0.mk (blk_below (g := gb193) (o := .cells #[.int .i64 a1, .int .i64 a0, .int .i64 0, .int .i64 a2, .int .i64 a3] 31 (0, 0)) (qK BK193.out) hb)
                                      have n3_ := Aside0.mk (below_step (qG GE193.out) hb)
                                      clear HO197
                                      clear BK193
                                      clear HB
                                      have HO197 := n0_
                                      have HO200 := n1_
                                      have BK193 := n2_
                                      have HB := n3_
                                      clear n0_ n1_ n2_ n3_
                                      (try clear hb)
                                      (try clear hb2)
                                      (try clear hk)
                                      (try clear hi)
                                      (try clear ho0)
                                      refine hK.out _ _ ⟨(blk_cell BK193.out 0).trans rfl, (blk_cell BK193.out 1).trans rfl, (blk_cell BK193.out 2).trans rfl, (blk_cell BK193.out 3).trans rfl, (blk_cell BK193.out 4).trans rfl⟩ (fun hHeld => ?_)
                                      clear hK K
                                      refine norm_ (a' := ?_) ?_ ?_
                                      rotate_left
                                      · show Act.put _ (some 71) _ = _
                                        simp only [Act.put, zA, zB, zC, i64_w, i32_w]
                                        rfl
                                      exact norm_ qN (hJ2_5 (v196, v199) _ ⟨hHeld, (by (with_reducible repeat (first | apply Kd.R_alloc | apply Kd.R_drewN | apply Kd.R_drew)); exact Kd.R_mono HO197.out (fun _ hk => hk.2)), (by (with_reducible repeat (first | apply Kd.R_alloc | apply Kd.R_drewN | apply Kd.R_drew)); exact Kd.R_mono HO200.out (fun _ hk => hk.2)), (qK BK193.out), (qG GE193.out)⟩)
                                    · skip
                                      refine Kd.R_lit_step (Kd.int .u8) _ 5 ?hg (N := 73) ?hd (xs := ([8, 1] : List Int)) (inner := [.int .u8 8, .int .u8 1]) (ok := fun _ => True) (okp := fun _ => True) ?hr ?hp (fun _ hk => hk) trivial (Below.refl _ _) (Nat.le_refl _) (by simp) ?_; (case hd => rfl); (case hg => rfl); (case hr => first | (go_simp; done) | (go_simp; rfl)); (case hp => exact (Reps.one (show Kd.M (Kd.int .u8) _ _ _ 8 [.int .u8 8] from rfl) (Reps.one (show Kd.M (Kd.int .u8) _ _ _ 1 [.int .u8 1] from rfl) (Reps.none _ _))))
                                      intro v205 w40 ho41 hb hg_ hnew_
                                      clear hg_ hnew_
                                      (first | rw [← Ny204.out] at ho41 | (simp only [Int.reduceToNat] at ho41; rw [← Ny204.out] at ho41))
                                      have n0_ := Aside0.mk (Kd.R_elder' (qR HO197.out) (Kd.R_base ho41) hb)
                                      have n1_ := Aside0.mk (Kd.R_lower (Kd.R_new' ho41 (Kd.R_lt (qR HO197.out))) (below_size (qG GE193.out)))
                                      have n2_ := Aside0.mk (blk_below (g := gb193) (o := .cells #[.int .i64 a1, .int .i64 a0, .int .i64 0, .int .i64 a2, .int .i64 a3] 31 (0, 0)) (qK BK193.out) hb)
                                      have n3_ := Aside0.mk (below_step (qG GE193.out) hb)
                                      clear HO197
                                      clear BK193
                                      clear HB
                                      have HO197 := n0_
                                      have HO206 := n1_
                                      have BK193 := n2_
                                      have HB := n3_
                                      clear n0_ n1_ n2_ n3_
                                      clear hb ho41
                                      refine hK.out _ _ ⟨(blk_cell BK193.out 0).trans rfl, (blk_cell BK193.out 1).trans rfl, (blk_cell BK193.out 2).trans rfl, (blk_cell BK193.out 3).trans rfl, (blk_cell BK193.out 4).trans rfl⟩ (fun hHeld => ?_)
                                      clear hK K
                                      refine norm_ (a' := ?_) ?_ ?_
                                      rotate_left
                                      · show Act.put _ (some 73) _ = _
                                        simp only [Act.put, zA, zB, zC, i64_w, i32_w]
                                        rfl
                                      exact norm_ qN (hJ2_7 (v196, v205) _ ⟨hHeld, (by (with_reducible repeat (first | apply Kd.R_alloc | apply Kd.R_drewN | apply Kd.R_drew)); exact Kd.R_mono HO197.out (fun _ hk => hk.2)), (by (with_reducible repeat (first | apply Kd.R_alloc | apply Kd.R_drewN | apply Kd.R_drew)); exact Kd.R_mono HO206.out (fun _ hk => hk.2)), (qK BK193.out), (qG GE193.out)⟩)
                                · skip
                                  rintro ⟨v199, v205⟩ w40 ⟨hS_, h0_, h1_, h2_, h3_⟩
                                  have n0_ : Aside0 (Kd.R (Kd.int .u8) 5 w40 w.heap.size (fun k_ => some k_ ≠ (v205 : Value).ownBlock) v199 t198) := ⟨h0_⟩
                                  have n1_ : Aside0 (Kd.R (Kd.int .u8) 5 w40 w.heap.size (fun k_ => some k_ ≠ (v199 : Value).ownBlock) v205 y204) := ⟨h1_⟩
                                  have n2_ : Aside0 (w40.heap[gb193]? = some (.cells #[.int .i64 a1, .int .i64 a0, .int .i64 0, .int .i64 a2, .int .i64 a3] 31 (0, 0))) := ⟨h2_⟩
                                  have n3_ : Aside0 (Below w.heap.size w w40) := ⟨h3_⟩
                                  clear BK193
                                  clear HB
                                  clear h0_ h1_ h2_ h3_
                                  have HO200 := n0_
                                  have HO206 := n1_
                                  have BK193 := n2_
                                  have HB := n3_
                                  clear n0_ n1_ n2_ n3_
                                  have hHeld : w40.cell? ⟨gb193, 0, none⟩ = some (.int .i64 a1) ∧ w40.cell? ⟨gb193, 1, none⟩ = some (.int .i64 a0) ∧ w40.cell? ⟨gb193, 2, none⟩ = some (.int .i64 0) ∧ w40.cell? ⟨gb193, 3, none⟩ = some (.int .i64 a2) ∧ w40.cell? ⟨gb193, 4, none⟩ = some (.int .i64 a3) := hS_
                                  refine norm_ (a' := ?_) ?_ ?_
                                  rotate_left
                                  · simp only [putAll, Act.put, zA, zB, zC]
                                    rfl
                                  refine one_ (i := 2) (N := some 68) #[true, true, true, true, true, true, false, true, false, false, false, false, false, false, false] rfl rfl (one_of HT_.out (by kernel_rfl)) (by decide) (fun K hK => ?_)
                                  refine Kd.R_lit_step (Kd.int .u8) _ 5 ?hg (N := 68) ?hd (xs := ([2] : List Int)) (inner := [.int .u8 2]) (ok := fun _ => True) (okp := fun _ => True) ?hr ?hp (fun _ hk => hk) trivial (Below.refl _ _) (Nat.le_refl _) (by simp) ?_; (case hd => rfl); (case hg => rfl); (case hr => first | (go_simp; done) | (go_simp; rfl)); (case hp => exact (Reps.one (show Kd.M (Kd.int .u8) _ _ _ 2 [.int .u8 2] from rfl) (Reps.none _ _)))
                                  intro v196 w41 ho42 hb hg_ hnew_
                                  clear hg_ hnew_
                                  (first | rw [← Ny195.out] at ho42 | (simp only [Int.reduceToNat] at ho42; rw [← Ny195.out] at ho42))
                                  have n0_ := Aside0.mk (Kd.R_elder' (qR HO200.out) (Kd.R_base ho42) hb)
                                  have n1_ := Aside0.mk (Kd.R_elder' (qR HO206.out) (Kd.R_base ho42) hb)
                                  have n2_ := Aside0.mk (Kd.R_lower (Kd.R_new' (Kd.R_new' ho42 (Kd.R_lt (qR HO200.out))) (Kd.R_lt (qR HO206.out))) (below_size (qG GE193.out)))
                                  have n3_ := Aside0.mk (blk_below (g := gb193) (o := .cells #[.int .i64 a1, .int .i64 a0, .int .i64 0, .int .i64 a2, .int .i64 a3] 31 (0, 0)) (qK BK193.out) hb)
                                  have n4_ := Aside0.mk (below_step (qG GE193.out) hb)
                                  clear HO200
                                  clear HO206
                                  clear BK193
                                  clear HB
                                  have HO200 := n0_
                                  have HO206 := n1_
                                  have HO197 := n2_
                                  have BK193 := n3_
                                  have HB := n4_
                                  clear n0_ n1_ n2_ n3_ n4_
                                  clear hb ho42
                                  refine hK.out _ _ ⟨(blk_cell BK193.out 0).trans rfl, (blk_cell BK193.out 1).trans rfl, (blk_cell BK193.out 2).trans rfl, (blk_cell BK193.out 3).trans rfl, (blk_cell BK193.out 4).trans rfl⟩ (fun hHeld => ?_)
                                  clear hK K
                                  refine norm_ (a' := ?_) ?_ ?_
                                  rotate_left
                                  · show Act.put _ (some 68) _ = _
                                    simp only [Act.put, zA, zB, zC, i64_w, i32_w]
                                    rfl
                                  exact norm_ qN (hJ2_5_7 (v196, v199, v205) _ ⟨hHeld, (by (with_reducible repeat (first | apply Kd.R_alloc | apply Kd.R_drewN | apply Kd.R_drew)); exact Kd.R_mono HO197.out (fun _ hk => ⟨hk.1.2, hk.2⟩)), (by (with_reducible repeat (first | apply Kd.R_alloc | apply Kd.R_drewN | apply Kd.R_drew)); exact Kd.R_mono HO200.out (fun _ hk => ⟨hk.2, hk.1⟩)), (by (with_reducible repeat (first | apply Kd.R_alloc | apply Kd.R_drewN | apply Kd.R_drew)); exact Kd.R_mono HO206.out (fun _ hk => ⟨hk.2, hk.1⟩)), (qK BK193.out), (qG GE193.out)⟩)
                              · skip
                                rintro ⟨v196, v205⟩ w41 ⟨hS_, h0_, h1_, h2_, h3_⟩
                                have n0_ : Aside0 (Kd.R (Kd.int .u8) 5 w41 w.heap.size (fun k_ => some k_ ≠ (v205 : Value).ownBlock) v196 y195) := ⟨h0_⟩
                                have n1_ : Aside0 (Kd.R (Kd.int .u8) 5 w41 w.heap.size (fun k_ => some k_ ≠ (v196 : Value).ownBlock) v205 y204) := ⟨h1_⟩
                                have n2_ : Aside0 (w41.heap[gb193]? = some (.cells #[.int .i64 a1, .int .i64 a0, .int .i64 0, .int .i64 a2, .int .i64 a3] 31 (0, 0))) := ⟨h2_⟩
                                have n3_ : Aside0 (Below w.heap.size w w41) := ⟨h3_⟩
                                clear BK193
                                clear HB
                                clear h0_ h1_ h2_ h3_
                                have HO197 := n0_
                                have HO206 := n1_
                                have BK193 := n2_
                                have HB := n3_
                                clear n0_ n1_ n2_ n3_
                                have hHeld : w41.cell? ⟨gb193, 0, none⟩ = some (.int .i64 a1) ∧ w41.cell? ⟨gb193, 1, none⟩ = some (.int .i64 a0) ∧ w41.cell? ⟨gb193, 2, none⟩ = some (.int .i64 0) ∧ w41.cell? ⟨gb193, 3, none⟩ = some (.int .i64 a2) ∧ w41.cell? ⟨gb193, 4, none⟩ = some (.int .i64 a3) := hS_
                                refine norm_ (a' := ?_) ?_ ?_
                                rotate_left
                                · simp only [putAll, Act.put, zA, zB, zC]
                                  rfl
                                refine one_ (i := 5) (N := some 71) #[true, true, true, true, true, true, false, true, false, false, false, false, false, false, false] rfl rfl (one_of HT_.out (by kernel_rfl)) (by decide) (fun K hK => ?_)
                                refine goes_ Tryd.func13 (by kernel_rfl) rfl #[.int .u64 (IntKind.u64.wrap (a4)), .int .i64 0] (by rfl) rfl rfl qL ?_
                                with_reducible refine (spec_Unsigned.calls kj6 (IntKind.u64.wrap (a4)) 0 t198 _ A28.out).mono ?_
                                rintro e w42 ⟨v199, rfl, ho0, hb⟩
                                refine ⟨_, rfl, ?_⟩
                                have n0_ := Aside0.mk (Kd.R_elder' (qR HO197.out) (Kd.R_base ho0) hb)
                                have n1_ := Aside0.mk (Kd.R_elder' (qR HO206.out) (Kd.R_base ho0) hb)
                                have n2_ := Aside0.mk (Kd.R_lower (Kd.R_new' (Kd.R_new' ho0 (Kd.R_lt (qR HO197.out))) (Kd.R_lt (qR HO206.out))) (below_size (qG GE193.out)))
                                have n3_ := Aside0.mk (blk_below (g := gb193) (o := .cells #[.int .i64 a1, .int .i64 a0, .int .i64 0, .int .i64 a2, .int .i64 a3] 31 (0, 0)) (qK BK193.out) hb)
                                have n4_ := Aside0.mk (below_step (qG GE193.out) hb)
                                clear HO197
                                clear HO206
                                clear BK193
                                clear HB
                                have HO197 := n0_
                                have HO206 := n1_
                                have HO200 := n2_
                                have BK193 := n3_
                                have HB := n4_
                                clear n0_ n1_ n2_ n3_ n4_
                                (try clear hb)
                                (try clear hb2)
                                (try clear hk)
                                (try clear hi)
                                (try clear ho0)
                                refine hK.out _ _ ⟨(blk_cell BK193.out 0).trans rfl, (blk_cell BK193.out 1).trans rfl, (blk_cell BK193.out 2).trans rfl, (blk_cell BK193.out 3).trans rfl, (blk_cell BK193.out 4).trans rfl⟩ (fun hHeld => ?_)
                                clear hK K
                                refine norm_ (a' := ?_) ?_ ?_
                                rotate_left
                                · show Act.put _ (some 71) _ = _
                                  simp only [Act.put, zA, zB, zC, i64_w, i32_w]
                                  rfl
                                exact norm_ qN (hJ2_5_7 (v196, v199, v205) _ ⟨hHeld, (by (with_reducible repeat (first | apply Kd.R_alloc | apply Kd.R_drewN | apply Kd.R_drew)); exact Kd.R_mono HO197.out (fun _ hk => ⟨hk.2, hk.1⟩)), (by (with_reducible repeat (first | apply Kd.R_alloc | apply Kd.R_drewN | apply Kd.R_drew)); exact Kd.R_mono HO200.out (fun _ hk => ⟨hk.1.2, hk.2⟩)), (qR HO206.out), (qK BK193.out), (qG GE193.out)⟩)
                            · skip
                              rintro ⟨v196, v199⟩ w40 ⟨hS_, h0_, h1_, h2_, h3_⟩
                              have n0_ : Aside0 (Kd.R (Kd.int .u8) 5 w40 w.heap.size (fun k_ => some k_ ≠ (v199 : Value).ownBlock) v196 y195) := ⟨h0_⟩
                              have n1_ : Aside0 (Kd.R (Kd.int .u8) 5 w40 w.heap.size (fun k_ => some k_ ≠ (v196 : Value).ownBlock) v199 t198) := ⟨h1_⟩
                              have n2_ : Aside0 (w40.heap[gb193]? = some (.cells #[.int .i64 a1, .int .i64 a0, .int .i64 0, .int .i64 a2, .int .i64 a3] 31 (0, 0))) := ⟨h2_⟩
                              have n3_ : Aside0 (Below w.heap.size w w40) := ⟨h3_⟩
                              clear BK193
                              clear HB
                              clear h0_ h1_ h2_ h3_
                              have HO197 := n0_
                              have HO200 := n1_
                              have BK193 := n2_
                              have HB := n3_
                              clear n0_ n1_ n2_ n3_
                              have hHeld : w40.cell? ⟨gb193, 0, none⟩ = some (.int .i64 a1) ∧ w40.cell? ⟨gb193, 1, none⟩ = some (.int .i64 a0) ∧ w40.cell? ⟨gb193, 2, none⟩ = some (.int .i64 0) ∧ w40.cell? ⟨gb193, 3, none⟩ = some (.int .i64 a2) ∧ w40.cell? ⟨gb193, 4, none⟩ = some (.int .i64 a3) := hS_
                              obtain ⟨Ao42, co42, eo42⟩ := Kd.R_slice HO200.out
                              (first | subst eo42 | (injection eo42 with f1_ f2_ f3_; have f4_ := f1_.symm; have f5_ := f3_.symm; clear f1_ f2_ f3_; subst f4_; subst f5_))
                              refine norm_ (a' := ?_) ?_ ?_
                              rotate_left
                              · simp only [putAll, Act.put, zA, zB, zC]
                                rfl
                              refine two_ (i := 6) (j := 7) (Ni := some 72) (Nj := some 73) #[true, true, true, true, true, true, true, false, false, false, false, false, false, false, false] #[true, true, true, true, true, true, false, true, false, false, false, false, false, false, false] rfl rfl rfl rfl (two_of HT_.out (by kernel_rfl)) (by decide) (by decide) (fun K hK => ?_) (fun K hK => ?_)
                              · skip
                                refine Kd.R_append_rows_step (Kd.int .u8) (w0 := w) w.heap.size (by rfl) (.tmp 68) (.tmp 71) 23 5 (.int .u8 0) 1 rfl Tryd.underlying23 info5 rfl (by decide) (by omega) v196 y195 t198 _ _ _ (fun k_ => some k_ ≠ (.slice Ao42 t198.length co42 : Value).ownBlock) (fun _ => False) rfl rfl ?aO ?aR (fun _ _ h => h) (fun _ h => h.elim) ?aF ?aB ?aS ?aL ?_
                                (case aR => exact qC (Kd.R_reads' HO200.out).2.2)
                                (case aB => exact (qG GE193.out))
                                (case aF => exact (fun k_ hk => Kd.fresh' (Kd.R_lt (qR HO200.out)) k_ hk))
                                (case aO => exact (qR HO197.out))
                                (case aS => exact (below_size (qG GE193.out)))
                                (case aL => have := LMc29.out; omega)
                                intro v202 w41 ho hb hg hat
                                rw [← Ny201.out] at ho
                                have n0_ := Aside0.mk (blk_grown (g := gb193) (o := .cells #[.int .i64 a1, .int .i64 a0, .int .i64 0, .int .i64 a2, .int .i64 a3] 31 (0, 0)) (qK BK193.out) hg (Kd.R_ne HO197.out BK193.out (by decide)))
                                have n1_ := Aside0.mk (Kd.R_after (ok := (fun _ => True)) (by (with_reducible repeat (first | apply Kd.R_alloc | apply Kd.R_drewN | apply Kd.R_drew)); exact Kd.R_mono HO200.out (fun _ hk => ⟨trivial, hk⟩)) hg hat)
                                have n2_ := Aside0.mk (hb)
                                have n3_ := Aside0.mk (ho)
                                clear BK193
                                clear HO200
                                clear HB
                                clear HO197
                                have BK193 := n0_
                                have HO200 := n1_
                                have HB := n2_
                                have HO203 := n3_
                                clear n0_ n1_ n2_ n3_
                                clear ho hb hg hat
                                refine hK.out _ _ ⟨(blk_cell BK193.out 0).trans rfl, (blk_cell BK193.out 1).trans rfl, (blk_cell BK193.out 2).trans rfl, (blk_cell BK193.out 3).trans rfl, (blk_cell BK193.out 4).trans rfl⟩ (fun hHeld => ?_)
                                clear hK K
                                refine norm_ (a' := ?_) ?_ ?_
                                rotate_left
                                · show Act.put _ (some 72) _ = _
                                  simp only [Act.put, zA, zB, zC, i64_w, i32_w]
                                  rfl
                                exact norm_ qN (hJ2_5_6 (v196, .slice Ao42 t198.length co42, v202) _ ⟨hHeld, (by (with_reducible repeat (first | apply Kd.R_alloc | apply Kd.R_drewN | apply Kd.R_drew)); exact Kd.R_mono HO200.out (fun _ hk => hk.2)), (qR HO203.out), (qK BK193.out), (qG GE193.out)⟩)
                              · skip
                                refine Kd.R_lit_step (Kd.int .u8) _ 5 ?hg (N := 73) ?hd (xs := ([8, 1] : List Int)) (inner := [.int .u8 8, .int .u8 1]) (ok := fun _ => True) (okp := fun _ => True) ?hr ?hp (fun _ hk => hk) trivial (Below.refl _ _) (Nat.le_refl _) (by simp) ?_; (case hd => rfl); (case hg => rfl); (case hr => first | (go_simp; done) | (go_simp; rfl)); (case hp => exact (Reps.one (show Kd.M (Kd.int .u8) _ _ _ 8 [.int .u8 8] from rfl) (Reps.one (show Kd.M (Kd.int .u8) _ _ _ 1 [.int .u8 1] from rfl) (Reps.none _ _))))
                                intro v205 w41 ho42 hb hg_ hnew_
                                clear hg_ hnew_
                                (first | rw [← Ny204.out] at ho42 | (simp only [Int.reduceToNat] at ho42; rw [← Ny204.out] at ho42))
                                have n0_ := Aside0.mk (Kd.R_elder' (qR HO197.out) (Kd.R_base ho42) hb)
                                have n1_ := Aside0.mk (Kd.R_elder' (qR HO200.out) (Kd.R_base ho42) hb)
                                have n2_ := Aside0.mk (Kd.R_lower (Kd.R_new' (Kd.R_new' ho42 (Kd.R_lt (qR HO197.out))) (Kd.R_lt (qR HO200.out))) (below_size (qG GE193.out)))
                                have n3_ := Aside0.mk (blk_below (g := gb193) (o := .cells #[.int .i64 a1, .int .i64 a0, .int .i64 0, .int .i64 a2, .int .i64 a3] 31 (0, 0)) (qK BK193.out) hb)
                                have n4_ := Aside0.mk (below_step (qG GE193.out) hb)
                                clear HO197
                                clear HO200
                                clear BK193
                                clear HB
                                have HO197 := n0_
                                have HO200 := n1_
                                have HO206 := n2_
                                have BK193 := n3_
                                have HB := n4_
                                clear n0_ n1_ n2_ n3_ n4_
                                clear hb ho42
                                refine hK.out _ _ ⟨(blk_cell BK193.out 0).trans rfl, (blk_cell BK193.out 1).trans rfl, (blk_cell BK193.out 2).trans rfl, (blk_cell BK193.out 3).trans rfl, (blk_cell BK193.out 4).trans rfl⟩ (fun hHeld => ?_)
                                clear hK K
                                refine norm_ (a' := ?_) ?_ ?_
                                rotate_left
                                · show Act.put _ (some 73) _ = _
                                  simp only [Act.put, zA, zB, zC, i64_w, i32_w]
                                  rfl
                                exact norm_ qN (hJ2_5_7 (v196, .slice Ao42 t198.length co42, v205) _ ⟨hHeld, (qR HO197.out), (qR HO200.out), (by (with_reducible repeat (first | apply Kd.R_alloc | apply Kd.R_drewN | apply Kd.R_drew)); exact Kd.R_mono HO206.out (fun _ hk => ⟨hk.1.2, hk.2⟩)), (qK BK193.out), (qG GE193.out)⟩)
                          · skip
                            rintro ⟨v196, v199, v205⟩ w42 ⟨hS_, h0_, h1_, h2_, h3_, h4_⟩
                            have n0_ : Aside0 (Kd.R (Kd.int .u8) 5 w42 w.heap.size (fun k_ => some k_ ≠ (v199 : Value).ownBlock ∧ some k_ ≠ (v205 : Value).ownBlock) v196 y195) := ⟨h0_⟩
                            have n1_ : Aside0 (Kd.R (Kd.int .u8) 5 w42 w.heap.size (fun k_ => some k_ ≠ (v196 : Value).ownBlock ∧ some k_ ≠ (v205 : Value).ownBlock) v199 t198) := ⟨h1_⟩
                            have n2_ : Aside0 (Kd.R (Kd.int .u8) 5 w42 w.heap.size (fun k_ => some k_ ≠ (v196 : Value).ownBlock ∧ some k_ ≠ (v199 : Value).ownBlock) v205 y204) := ⟨h2_⟩
                            have n3_ : Aside0 (w42.heap[gb193]? = some (.cells #[.int .i64 a1, .int .i64 a0, .int .i64 0, .int .i64 a2, .int .i64 a3] 31 (0, 0))) := ⟨h3_⟩
                            have n4_ : Aside0 (Below w.heap.size w w42) := ⟨h4_⟩
                            clear BK193
                            clear HB
                            clear h0_ h1_ h2_ h3_ h4_
                            have HO197 := n0_
                            have HO200 := n1_
                            have HO206 := n2_
                            have BK193 := n3_
                            have HB := n4_
                            clear n0_ n1_ n2_ n3_ n4_
                            have hHeld : w42.cell? ⟨gb193, 0, none⟩ = some (.int .i64 a1) ∧ w42.cell? ⟨gb193, 1, none⟩ = some (.int .i64 a0) ∧ w42.cell? ⟨gb193, 2, none⟩ = some (.int .i64 0) ∧ w42.cell? ⟨gb193, 3, none⟩ = some (.int .i64 a2) ∧ w42.cell? ⟨gb193, 4, none⟩ = some (.int .i64 a3) := hS_
                            obtain ⟨Ao44, co44, eo44⟩ := Kd.R_slice HO200.out
                            (first | subst eo44 | (injection eo44 with f1_ f2_ f3_; have f4_ := f1_.symm; have f5_ := f3_.symm; clear f1_ f2_ f3_; subst f4_; subst f5_))
                            refine norm_ (a' := ?_) ?_ ?_
                            rotate_left
                            · simp only [putAll, Act.put, zA, zB, zC]
                              rfl
                            refine one_ (i := 6) (N := some 72) #[true, true, true, true, true, true, true, true, false, false, false, false, false, false, false] rfl rfl (one_of HT_.out (by kernel_rfl)) (by decide) (fun K hK => ?_)
                            refine Kd.R_append_rows_step (Kd.int .u8) (w0 := w) w.heap.size (by rfl) (.tmp 68) (.tmp 71) 23 5 (.int .u8 0) 1 rfl Tryd.underlying23 info5 rfl (by decide) (by omega) v196 y195 t198 _ _ _ (fun k_ => some k_ ≠ (.slice Ao44 t198.length co44 : Value).ownBlock ∧ some k_ ≠ (v205 : Value).ownBlock) (fun _ => False) rfl rfl ?aO ?aR (fun _ _ h => h) (fun _ h => h.elim) ?aF ?aB ?aS ?aL ?_
                            (case aR => exact qC (Kd.R_reads' HO200.out).2.2)
                            (case aB => exact (qG GE193.out))
                            (case aF => exact (fun k_ hk => ⟨Kd.fresh' (Kd.R_lt (qR HO200.out)) k_ hk, Kd.fresh' (Kd.R_lt (qR HO206.out)) k_ hk⟩))
                            (case aO => exact (qR HO197.out))
                            (case aS => exact (below_size (qG GE193.out)))
                            (case aL => have := LMc29.out; omega)
                            intro v202 w43 ho hb hg hat
                            rw [← Ny201.out] at ho
                            have n0_ := Aside0.mk (blk_grown (g := gb193) (o := .cells #[.int .i64 a1, .int .i64 a0, .int .i64 0, .int .i64 a2, .int .i64 a3] 31 (0, 0)) (qK BK193.out) hg (Kd.R_ne HO197.out BK193.out (by decide)))
                            have n1_ := Aside0.mk (Kd.R_after (ok := (fun k_ => some k_ ≠ (v205 : Value).ownBlock)) (by (with_reducible repeat (first | apply Kd.R_alloc | apply Kd.R_drewN | apply Kd.R_drew)); exact Kd.R_mono HO200.out (fun _ hk => ⟨hk.2, hk.1⟩)) hg hat)
                            have n2_ := Aside0.mk (Kd.R_after (ok := (fun k_ => some k_ ≠ (.slice Ao44 t198.length co44 : Value).ownBlock)) (by (with_reducible repeat (first | apply Kd.R_alloc | apply Kd.R_drewN | apply Kd.R_drew)); exact Kd.R_mono HO206.out (fun _ hk => ⟨hk.2, hk.1⟩)) hg hat)
                            have n3_ := Aside0.mk (hb)
                            have n4_ := Aside0.mk (ho)
                            clear BK193
                            clear HO200
                            clear HO206
                            clear HB
                            clear HO197
                            have BK193 := n0_
                            have HO200 := n1_
                            have HO206 := n2_
                            have HB := n3_
                            have HO203 := n4_
                            clear n0_ n1_ n2_ n3_ n4_
                            clear ho hb hg hat
                            refine hK.out _ _ ⟨(blk_cell BK193.out 0).trans rfl, (blk_cell BK193.out 1).trans rfl, (blk_cell BK193.out 2).trans rfl, (blk_cell BK193.out 3).trans rfl, (blk_cell BK193.out 4).trans rfl⟩ (fun hHeld => ?_)
                            clear hK K
                            refine norm_ (a' := ?_) ?_ ?_
                            rotate_left
                            · show Act.put _ (some 72) _ = _
                              simp only [Act.put, zA, zB, zC, i64_w, i32_w]
                              rfl
                            exact norm_ qN (hJ2_5_6_7 (v196, .slice Ao44 t198.length co44, v202, v205) _ ⟨hHeld, (by (with_reducible repeat (first | apply Kd.R_alloc | apply Kd.R_drewN | apply Kd.R_drew)); exact Kd.R_mono HO200.out (fun _ hk => ⟨hk.2, hk.1⟩)), (qR HO203.out), (qR HO206.out), (qK BK193.out), (qG GE193.out)⟩)
                        · skip
                          rintro ⟨v196, v199, v202⟩ w42 ⟨hS_, h0_, h1_, h2_, h3_⟩
                          have n0_ : Aside0 (Kd.R (Kd.int .u8) 5 w42 w.heap.size (fun k_ => some k_ ≠ (v202 : Value).ownBlock) v199 t198) := ⟨h0_⟩
                          have n1_ : Aside0 (Kd.R (Kd.int .u8) 5 w42 w.heap.size (fun k_ => some k_ ≠ (v199 : Value).ownBlock) v202 y201) := ⟨h1_⟩
                          have n2_ : Aside0 (w42.heap[gb193]? = some (.cells #[.int .i64 a1, .int .i64 a0, .int .i64 0, .int .i64 a2, .int .i64 a3] 31 (0, 0))) := ⟨h2_⟩
                          have n3_ : Aside0 (Below w.heap.size w w42) := ⟨h3_⟩
                          clear BK193
                          clear HB
                          clear h0_ h1_ h2_ h3_
                          have HO200 := n0_
                          have HO203 := n1_
                          have BK193 := n2_
                          have HB := n3_
                          clear n0_ n1_ n2_ n3_
                          have hHeld : w42.cell? ⟨gb193, 0, none⟩ = some (.int .i64 a1) ∧ w42.cell? ⟨gb193, 1, none⟩ = some (.int .i64 a0) ∧ w42.cell? ⟨gb193, 2, none⟩ = some (.int .i64 0) ∧ w42.cell? ⟨gb193, 3, none⟩ = some (.int .i64 a2) ∧ w42.cell? ⟨gb193, 4, none⟩ = some (.int .i64 a3) := hS_
                          refine norm_ (a' := ?_) ?_ ?_
                          rotate_left
                          · simp only [putAll, Act.put, zA, zB, zC]
                            rfl
                          refine one_ (i := 7) (N := some 73) #[true, true, true, true, true, true, true, true, false, false, false, false, false, false, false] rfl rfl (one_of HT_.out (by kernel_rfl)) (by decide) (fun K hK => ?_)
                          refine Kd.R_lit_step (Kd.int .u8) _ 5 ?hg (N := 73) ?hd (xs := ([8, 1] : List Int)) (inner := [.int .u8 8, .int .u8 1]) (ok := fun _ => True) (okp := fun _ => True) ?hr ?hp (fun _ hk => hk) trivial (Below.refl _ _) (Nat.le_refl _) (by simp) ?_; (case hd => rfl); (case hg => rfl); (case hr => first | (go_simp; done) | (go_simp; rfl)); (case hp => exact (Reps.one (show Kd.M (Kd.int .u8) _ _ _ 8 [.int .u8 8] from rfl) (Reps.one (show Kd.M (Kd.int .u8) _ _ _ 1 [.int .u8 1] from rfl) (Reps.none _ _))))
                          intro v205 w43 ho44 hb hg_ hnew_
                          clear hg_ hnew_
                          (first | rw [← Ny204.out] at ho44 | (simp only [Int.reduceToNat] at ho44; rw [← Ny204.out] at ho44))
                          have n0_ := Aside0.mk (Kd.R_elder' (qR HO200.out) (Kd.R_base ho44) hb)
                          have n1_ := Aside0.mk (Kd.R_elder' (qR HO203.out) (Kd.R_base ho44) hb)
                          have n2_ := Aside0.mk (Kd.R_lower (Kd.R_new' (Kd.R_new' ho44 (Kd.R_lt (qR HO200.out))) (Kd.R_lt (qR HO203.out))) (below_size (qG GE193.out)))
                          have n3_ := Aside0.mk (blk_below (g := gb193) (o := .cells #[.int .i64 a1, .int .i64 a0, .int .i64 0, .int .i64 a2, .int .i64 a3] 31 (0, 0)) (qK BK193.out) hb)
                          have n4_ := Aside0.mk (below_step (qG GE193.out) hb)
                          clear HO200
                          clear HO203
                          clear BK193
                          clear HB
                          have HO200 := n0_
                          have HO203 := n1_
                          have HO206 := n2_
                          have BK193 := n3_
                          have HB := n4_
                          clear n0_ n1_ n2_ n3_ n4_
                          clear hb ho44
                          refine hK.out _ _ ⟨(blk_cell BK193.out 0).trans rfl, (blk_cell BK193.out 1).trans rfl, (blk_cell BK193.out 2).trans rfl, (blk_cell BK193.out 3).trans rfl, (blk_cell BK193.out 4).trans rfl⟩ (fun hHeld => ?_)
                          clear hK K
                          refine norm_ (a' := ?_) ?_ ?_
                          rotate_left
                          · show Act.put _ (some 73) _ = _
                            simp only [Act.put, zA, zB, zC, i64_w, i32_w]
                            rfl
                          exact norm_ qN (hJ2_5_6_7 (v196, v199, v202, v205) _ ⟨hHeld, (qR HO200.out), (qR HO203.out), (by (with_reducible repeat (first | apply Kd.R_alloc | apply Kd.R_drewN | apply Kd.R_drew)); exact Kd.R_mono HO206.out (fun _ hk => ⟨hk.1.2, hk.2⟩)), (qK BK193.out), (qG GE193.out)⟩)
                      rintro ⟨v196, v199, v202, v205⟩ w44 ⟨hS_, h0_, h1_, h2_, h3_, h4_⟩
                      have n0_ : Aside0 (Kd.R (Kd.int .u8) 5 w44 w.heap.size (fun k_ => some k_ ≠ (v202 : Value).ownBlock ∧ some k_ ≠ (v205 : Value).ownBlock) v199 t198) := ⟨h0_⟩
                      have n1_ : Aside0 (Kd.R (Kd.int .u8) 5 w44 w.heap.size (fun k_ => some k_ ≠ (v199 : Value).ownBlock ∧ some k_ ≠ (v205 : Value).ownBlock) v202 y201) := ⟨h1_⟩
                      have n2_ : Aside0 (Kd.R (Kd.int .u8) 5 w44 w.heap.size (fun k_ => some k_ ≠ (v199 : Value).ownBlock ∧ some k_ ≠ (v202 : Value).ownBlock) v205 y204) := ⟨h2_⟩
                      have n3_ : Aside0 (w44.heap[gb193]? = some (.cells #[.int .i64 a1, .int .i64 a0, .int .i64 0, .int .i64 a2, .int .i64 a3] 31 (0, 0))) := ⟨h3_⟩
                      have n4_ : Aside0 (Below w.heap.size w w44) := ⟨h4_⟩
                      clear BK193
                      clear HB
                      clear h0_ h1_ h2_ h3_ h4_
                      have HO200 := n0_
                      have HO203 := n1_
                      have HO206 := n2_
                      have BK193 := n3_
                      have HB := n4_
                      clear n0_ n1_ n2_ n3_ n4_
                      have hHeld : w44.cell? ⟨gb193, 0, none⟩ = some (.int .i64 a1) ∧ w44.cell? ⟨gb193, 1, none⟩ = some (.int .i64 a0) ∧ w44.cell? ⟨gb193, 2, none⟩ = some (.int .i64 0) ∧ w44.cell? ⟨gb193, 3, none⟩ = some (.int .i64 a2) ∧ w44.cell? ⟨gb193, 4, none⟩ = some (.int .i64 a3) := hS_
                      obtain ⟨Ao46, co46, eo46⟩ := Kd.R_slice HO206.out
                      (first | subst eo46 | (injection eo46 with f1_ f2_ f3_; have f4_ := f1_.symm; have f5_ := f3_.symm; clear f1_ f2_ f3_; subst f4_; subst f5_))
                      refine norm_ (a' := ?_) ?_ ?_
                      rotate_left
                      · simp only [putAll, Act.put, zA, zB, zC]
                        rfl
                      refine one_ (i := 8) (N := some 74) #[true, true, true, true, true, true, true, true, true, false, false, false, false, false, false] rfl rfl (one_of HT_.out (by kernel_rfl)) (by decide) (fun K hK => ?_)
                      refine Kd.R_append_rows_step (Kd.int .u8) (w0 := w) w.heap.size (by rfl) (.tmp 72) (.tmp 73) 23 5 (.int .u8 0) 1 rfl Tryd.underlying23 info5 rfl (by decide) (by omega) v202 y201 y204 _ _ _ (fun k_ => some k_ ≠ (v199 : Value).ownBlock ∧ some k_ ≠ (.slice Ao46 y204.length co46 : Value).ownBlock) (fun _ => False) rfl rfl ?aO ?aR (fun _ _ h => h) (fun _ h => h.elim) ?aF ?aB ?aS ?aL ?_
                      (case aR => exact qC (Kd.R_reads' HO206.out).2.2)
                      (case aB => exact (qG GE193.out))
                      (case aF => exact (fun k_ hk => ⟨Kd.fresh' (Kd.R_lt (qR HO200.out)) k_ hk, Kd.fresh' (Kd.R_lt (qR HO206.out)) k_ hk⟩))
                      (case aO => exact (qR HO203.out))
                      (case aS => exact (below_size (qG GE193.out)))
                      (case aL => have := LMc30.out; omega)
                      intro v208 w45 ho hb hg hat
                      rw [← Ny207.out] at ho
                      have n0_ := Aside0.mk (blk_grown (g := gb193) (o := .cells #[.int .i64 a1, .int .i64 a0, .int .i64 0, .int .i64 a2, .int .i64 a3] 31 (0, 0)) (qK BK193.out) hg (Kd.R_ne HO203.out BK193.out (by decide)))
                      have n1_ := Aside0.mk (Kd.R_after (ok := (fun k_ => some k_ ≠ (.slice Ao46 y204.length co46 : Value).ownBlock)) (by (with_reducible repeat (first | apply Kd.R_alloc | apply Kd.R_drewN | apply Kd.R_drew)); exact Kd.R_mono HO200.out (fun _ hk => ⟨hk.2, hk.1⟩)) hg hat)
                      have n2_ := Aside0.mk (Kd.R_after (ok := (fun k_ => some k_ ≠ (v199 : Value).ownBlock)) (qR HO206.out) hg hat)
                      have n3_ := Aside0.mk (hb)
                      have n4_ := Aside0.mk (ho)
                      clear BK193
                      clear HO200
                      clear HO206
                      clear HB
                      clear HO203
                      have BK193 := n0_
                      have HO200 := n1_
                      have HO206 := n2_
                      have HB := n3_
                      have HO209 := n4_
                      clear n0_ n1_ n2_ n3_ n4_
                      clear ho hb hg hat
                      obtain ⟨Ao47, co47, eo47⟩ := Kd.R_slice HO209.out
                      (first | subst eo47 | (injection eo47 with f1_ f2_ f3_; have f4_ := f1_.symm; have f5_ := f3_.symm; clear f1_ f2_ f3_; subst f4_; subst f5_))
                      refine hK.out _ _ ⟨(blk_cell BK193.out 0).trans rfl, (blk_cell BK193.out 1).trans rfl, (blk_cell BK193.out 2).trans rfl, (blk_cell BK193.out 3).trans rfl, (blk_cell BK193.out 4).trans rfl⟩ (fun hHeld => ?_)
                      clear hK K
                      refine norm_ (a' := ?_) ?_ ?_
                      rotate_left
                      · show Act.put _ (some 74) _ = _
                        simp only [Act.put, zA, zB, zC, i64_w, i32_w]
                        rfl
                      refine one_ (i := 9) (N := some 75) #[true, true, true, true, true, true, true, true, true, true, false, false, false, false, false] rfl rfl (one_of HT_.out (by kernel_rfl)) (by decide) (fun K hK => ?_)
                      refine goes_ Tryd.func19 (by kernel_rfl) rfl #[.agg #[.int .i64 a1, .int .i64 a0, .int .i64 0, .int .i64 a2, .int .i64 a3], .int .u64 a5, .slice Ao47 y207.length co47, .int .i64 2] (by rfl) rfl rfl qL ?_
                      with_reducible refine (laws_rowsOf.calls kj6 a1 a0 0 a2 a3 a5 _ _ y207 2 t210 true _ ?side1 ?side2 A31.out ?sideG).mono ?_
                      (case sideG => exact HGL.out.below (qG GE193.out))
                      (case side1 => exact qC (Kd.R_reads' HO209.out).2.2)
                      (case side2 => exact (Kd.R_reads' HO209.out).2.1)
                      rintro e w48 ⟨v211, rfl, ho0, hb⟩
                      refine ⟨_, rfl, ?_⟩
                      have n0_ := Aside0.mk (Kd.R_below (qR HO200.out) hb)
                      have n1_ := Aside0.mk (Kd.R_below (qR HO206.out) hb)
                      have n2_ := Aside0.mk (Kd.R_below (qR HO209.out) hb)
                      have n3_ := Aside0.mk (Kd.R_lower ho0 (below_size (qG GE193.out)))
                      have n4_ := Aside0.mk (blk_below (g := gb193) (o := .cells #[.int .i64 a1, .int .i64 a0, .int .i64 0, .int .i64 a2, .int .i64 a3] 31 (0, 0)) (qK BK193.out) hb)
                      have n5_ := Aside0.mk (below_step (qG GE193.out) hb)
                      clear HO200
                      clear HO206
                      clear HO209
                      clear BK193
                      clear HB
                      have HO200 := n0_
                      have HO206 := n1_
                      have HO209 := n2_
                      have HO212 := n3_
                      have BK193 := n4_
                      have HB := n5_
                      clear n0_ n1_ n2_ n3_ n4_ n5_
                      (try clear hb)
                      (try clear hb2)
                      (try clear hk)
                      (try clear hi)
                      (try clear ho0)
                      refine hK.out _ _ ⟨(blk_cell BK193.out 0).trans rfl, (blk_cell BK193.out 1).trans rfl, (blk_cell BK193.out 2).trans rfl, (blk_cell BK193.out 3).trans rfl, (blk_cell BK193.out 4).trans rfl⟩ (fun hHeld => ?_)
                      clear hK K
                      refine norm_ (a' := ?_) ?_ ?_
                      rotate_left
                      · show Act.put _ (some 75) _ = _
                        simp only [Act.put, zA, zB, zC, i64_w, i32_w]
                        rfl
                      refine pure_ (i := 10) (N := some 65) (v := ?_) (a' := ?_) #[true, true, true, true, true, true, true, true, true, true, true, false, false, false, false] rfl rfl (any_of HT_.out (by kernel_rfl)) (fun _ _ _ h => h) (Or.inl ⟨by rfl, ?_⟩) ?_ ?_
                      rotate_left
                      · intro w'
                        go_simp
                        with_reducible rfl
                      rotate_left
                      · simp only [Act.put, zA, zB, zC, i64_w, i32_w]
                        rfl
                      refine pure_ (i := 11) (N := some 76) (v := ?_) (a' := ?_) #[true, true, true, true, true, true, true, true, true, true, true, true, false, false, false] rfl rfl (any_of HT_.out (by kernel_rfl)) (fun _ _ _ h => h) (Or.inl ⟨by rfl, ?_⟩) ?_ ?_
                      rotate_left
                      · intro w'
                        go_simp
                        with_reducible rfl
                      rotate_left
                      · simp only [Act.put, zA, zB, zC, i64_w, i32_w]
                        rfl
                      refine pure_ (i := 12) (N := some 77) (v := ?_) (a' := ?_) #[true, true, true, true, true, true, true, true, true, true, true, true, true, false, false] rfl rfl (any_of HT_.out (by kernel_rfl)) (fun _ _ _ h => h) (Or.inl ⟨by rfl, ?_⟩) ?_ ?_
                      rotate_left
                      · intro w'
                        go_simp
                        with_reducible rfl
                      rotate_left
                      · simp only [Act.put, zA, zB, zC, i64_w, i32_w]
                        rfl
                      refine pure_ (i := 13) (N := some 16) (v := ?_) (a' := ?_) #[true, true, true, true, true, true, true, true, true, true, true, true, true, true, false] rfl rfl (any_of HT_.out (by kernel_rfl)) (fun _ _ _ h => h) (Or.inl ⟨by rfl, ?_⟩) ?_ ?_
                      rotate_left
                      · intro w'
                        go_simp
                        with_reducible rfl
                      rotate_left
                      · simp only [Act.put, zA, zB, zC, i64_w, i32_w]
                        rfl
                      refine pure_ (i := 14) (N := some 17) (v := ?_) (a' := ?_) #[true, true, true, true, true, true, true, true, true, true, true, true, true, true, true] rfl rfl (any_of HT_.out (by kernel_rfl)) (fun _ _ _ h => h) (Or.inl ⟨by rfl, ?_⟩) ?_ ?_
                      rotate_left
                      · intro w'
                        go_simp
                        with_reducible rfl
                      rotate_left
                      · simp only [Act.put, zA, zB, zC, i64_w, i32_w]
                        rfl
                      refine done_ (done_of HT_.out (by kernel_rfl)) ?_
                      try go_wp2
                      have n0_ := Aside0.mk (Kd.R_drew HO200.out)
                      have n1_ := Aside0.mk (Kd.R_drew HO206.out)
                      have n2_ := Aside0.mk (Kd.R_drew HO209.out)
                      have n3_ := Aside0.mk (Kd.R_drew HO212.out)
                      have n4_ := Aside0.mk (blk_drew BK193.out)
                      have n5_ := Aside0.mk (below_drew1 HB.out)
                      clear HO200
                      clear HO206
                      clear HO209
                      clear HO212
                      clear BK193
                      clear HB
                      have HO200 := n0_
                      have HO206 := n1_
                      have HO209 := n2_
                      have HO212 := n3_
                      have BK193 := n4_
                      have HB := n5_
                      clear n0_ n1_ n2_ n3_ n4_ n5_
                      obtain ⟨Ao50, co50, eo50⟩ := Kd.R_slice HO212.out
                      (first | subst eo50 | (injection eo50 with f1_ f2_ f3_; have f4_ := f1_.symm; have f5_ := f3_.symm; clear f1_ f2_ f3_; subst f4_; subst f5_))
                      have p214 : 0 ≤ (0 : Int) := (by omega)
                      have q214 : 0 < (t210.length : Int) := of_decide_eq_true qA
                      obtain ⟨ad214, e214, hx214_0, hx214_1, hx214_2, hx214_3, hx214_4, hx214_5, hx214_6, hx214_7, hx214_8, hx214_9, hx214_10, hx214_11, hx214_12, hx214_13, hx214_14⟩ := at_T38 (Kd.R_reads' HO212.out).2.2 0 p214 q214
                      cases e214
                      have qi214 : (0 < t210.length) = True := eq_true (by omega)
                      (try rw [show ((0 : Int)).toNat = 0 from rfl] at hx214_0)
                      (try rw [show 0 * 15 = 0 from rfl] at hx214_0)
                      (try rw [Addr.add_zero'] at hx214_0)
                      (try rw [show ((0 : Int)).toNat = 0 from rfl] at hx214_1)
                      (try rw [show 0 * 15 = 0 from rfl] at hx214_1)
                      (try rw [Addr.add_zero'] at hx214_1)
                      (try rw [show ((0 : Int)).toNat = 0 from rfl] at hx214_2)
                      (try rw [show 0 * 15 = 0 from rfl] at hx214_2)
                      (try rw [Addr.add_zero'] at hx214_2)
                      (try rw [show ((0 : Int)).toNat = 0 from rfl] at hx214_3)
                      (try rw [show 0 * 15 = 0 from rfl] at hx214_3)
                      (try rw [Addr.add_zero'] at hx214_3)
                      (try rw [show ((0 : Int)).toNat = 0 from rfl] at hx214_4)
                      (try rw [show 0 * 15 = 0 from rfl] at hx214_4)
                      (try rw [Addr.add_zero'] at hx214_4)
                      (try rw [show ((0 : Int)).toNat = 0 from rfl] at hx214_5)
                      (try rw [show 0 * 15 = 0 from rfl] at hx214_5)
                      (try rw [Addr.add_zero'] at hx214_5)
                      (try rw [show ((0 : Int)).toNat = 0 from rfl] at hx214_6)
                      (try rw [show 0 * 15 = 0 from rfl] at hx214_6)
                      (try rw [Addr.add_zero'] at hx214_6)
                      (try rw [show ((0 : Int)).toNat = 0 from rfl] at hx214_7)
                      (try rw [show 0 * 15 = 0 from rfl] at hx214_7)
                      (try rw [Addr.add_zero'] at hx214_7)
                      (try rw [show ((0 : Int)).toNat = 0 from rfl] at hx214_8)
                      (try rw [show 0 * 15 = 0 from rfl] at hx214_8)
                      (try rw [Addr.add_zero'] at hx214_8)
                      (try rw [show ((0 : Int)).toNat = 0 from rfl] at hx214_9)
                      (try rw [show 0 * 15 = 0 from rfl] at hx214_9)
                      (try rw [Addr.add_zero'] at hx214_9)
                      (try rw [show ((0 : Int)).toNat = 0 from rfl] at hx214_10)
                      (try rw [show 0 * 15 = 0 from rfl] at hx214_10)
                      (try rw [Addr.add_zero'] at hx214_10)
                      (try rw [show ((0 : Int)).toNat = 0 from rfl] at hx214_11)
                      (try rw [show 0 * 15 = 0 from rfl] at hx214_11)
                      (try rw [Addr.add_zero'] at hx214_11)
                      (try rw [show ((0 : Int)).toNat = 0 from rfl] at hx214_12)
                      (try rw [show 0 * 15 = 0 from rfl] at hx214_12)
                      (try rw [Addr.add_zero'] at hx214_12)
                      (try rw [show ((0 : Int)).toNat = 0 from rfl] at hx214_13)
                      (try rw [show 0 * 15 = 0 from rfl] at hx214_13)
                      (try rw [Addr.add_zero'] at hx214_13)
                      (try rw [show ((0 : Int)).toNat = 0 from rfl] at hx214_14)
                      (try rw [show 0 * 15 = 0 from rfl] at hx214_14)
                      (try rw [Addr.add_zero'] at hx214_14)
                      replace p214 := eq_true p214
                      replace q214 := eq_true q214
                      have p215 : 0 ≤ (0 : Int) := (by omega)
                      have q215 : 0 < (t210.length : Int) := of_decide_eq_true qA
                      obtain ⟨ad215, e215, hx215_0, hx215_1, hx215_2, hx215_3, hx215_4, hx215_5, hx215_6, hx215_7, hx215_8, hx215_9, hx215_10, hx215_11, hx215_12, hx215_13, hx215_14⟩ := at_T38 (Kd.R_reads' HO212.out).2.2 0 p215 q215
                      obtain rfl : ad214 = ad215 := (by injection e215)
                      have qi215 : (0 < t210.length) = True := eq_true (by omega)
                      (try rw [show ((0 : Int)).toNat = 0 from rfl] at hx215_0)
                      (try rw [show 0 * 15 = 0 from rfl] at hx215_0)
                      (try rw [Addr.add_zero'] at hx215_0)
                      (try rw [show ((0 : Int)).toNat = 0 from rfl] at hx215_1)
                      (try rw [show 0 * 15 = 0 from rfl] at hx215_1)
                      (try rw [Addr.add_zero'] at hx215_1)
                      (try rw [show ((0 : Int)).toNat = 0 from rfl] at hx215_2)
                      (try rw [show 0 * 15 = 0 from rfl] at hx215_2)
                      (try rw [Addr.add_zero'] at hx215_2)
                      (try rw [show ((0 : Int)).toNat = 0 from rfl] at hx215_3)
                      (try rw [show 0 * 15 = 0 from rfl] at hx215_3)
                      (try rw [Addr.add_zero'] at hx215_3)
                      (try rw [show ((0 : Int)).toNat = 0 from rfl] at hx215_4)
                      (try rw [show 0 * 15 = 0 from rfl] at hx215_4)
                      (try rw [Addr.add_zero'] at hx215_4)
                      (try rw [show ((0 : Int)).toNat = 0 from rfl] at hx215_5)
                      (try rw [show 0 * 15 = 0 from rfl] at hx215_5)
                      (try rw [Addr.add_zero'] at hx215_5)
                      (try rw [show ((0 : Int)).toNat = 0 from rfl] at hx215_6)
                      (try rw [show 0 * 15 = 0 from rfl] at hx215_6)
                      (try rw [Addr.add_zero'] at hx215_6)
                      (try rw [show ((0 : Int)).toNat = 0 from rfl] at hx215_7)
                      (try rw [show 0 * 15 = 0 from rfl] at hx215_7)
                      (try rw [Addr.add_zero'] at hx215_7)
                      (try rw [show ((0 : Int)).toNat = 0 from rfl] at hx215_8)
                      (try rw [show 0 * 15 = 0 from rfl] at hx215_8)
                      (try rw [Addr.add_zero'] at hx215_8)
                      (try rw [show ((0 : Int)).toNat = 0 from rfl] at hx215_9)
                      (try rw [show 0 * 15 = 0 from rfl] at hx215_9)
                      (try rw [Addr.add_zero'] at hx215_9)
                      (try rw [show ((0 : Int)).toNat = 0 from rfl] at hx215_10)
                      (try rw [show 0 * 15 = 0 from rfl] at hx215_10)
                      (try rw [Addr.add_zero'] at hx215_10)
                      (try rw [show ((0 : Int)).toNat = 0 from rfl] at hx215_11)
                      (try rw [show 0 * 15 = 0 from rfl] at hx215_11)
                      (try rw [Addr.add_zero'] at hx215_11)
                      (try rw [show ((0 : Int)).toNat = 0 from rfl] at hx215_12)
                      (try rw [show 0 * 15 = 0 from rfl] at hx215_12)
                      (try rw [Addr.add_zero'] at hx215_12)
                      (try rw [show ((0 : Int)).toNat = 0 from rfl] at hx215_13)
                      (try rw [show 0 * 15 = 0 from rfl] at hx215_13)
                      (try rw [Addr.add_zero'] at hx215_13)
                      (try rw [show ((0 : Int)).toNat = 0 from rfl] at hx215_14)
                      (try rw [show 0 * 15 = 0 from rfl] at hx215_14)
                      (try rw [Addr.add_zero'] at hx215_14)
                      replace p215 := eq_true p215
                      replace q215 := eq_true q215
                      refine start_ (n := 22) (S := fun w' => w'.cell? ad214 = some (.int .u64 ((rd_T38 t210 0).f0)) ∧ w'.cell? ⟨ad214.block, ad214.off + 1, none⟩ = some (.int .i64 ((rd_T38 t210 0).f1)) ∧ w'.cell? ⟨ad214.block, ad214.off + 2, none⟩ = some (.bool ((rd_T38 t210 0).f2.f0)) ∧ w'.cell? ⟨ad214.block, ad214.off + 3, none⟩ = some (.string ((rd_T38 t210 0).f2.f1)) ∧ w'.cell? ⟨ad214.block, ad214.off + 4, none⟩ = some (.int .u64 ((rd_T38 t210 0).f2.f2)) ∧ w'.cell? ⟨ad214.block, ad214.off + 5, none⟩ = some (.int .i64 ((rd_T38 t210 0).f2.f3)) ∧ w'.cell? ⟨ad214.block, ad214.off + 6, none⟩ = some (.int .i64 ((rd_T38 t210 0).f3)) ∧ w'.cell? ⟨ad214.block, ad214.off + 7, none⟩ = some (.int .i64 ((rd_T38 t210 0).f4)) ∧ w'.cell? ⟨ad214.block, ad214.off + 8, none⟩ = some (.bool ((rd_T38 t210 0).f5)) ∧ w'.cell? ⟨ad214.block, ad214.off + 9, none⟩ = some (.bool ((rd_T38 t210 0).f6)) ∧ w'.cell? ⟨ad214.block, ad214.off + 10, none⟩ = some (.bool ((rd_T38 t210 0).f7)) ∧ w'.cell? ⟨ad214.block, ad214.off + 11, none⟩ = some (.bool ((rd_T38 t210 0).f8)) ∧ w'.cell? ⟨ad214.block, ad214.off + 12, none⟩ = some (.int .i64 ((rd_T38 t210 0).f9)) ∧ w'.cell? ⟨ad214.block, ad214.off + 13, none⟩ = some (.int .i64 ((rd_T38 t210 0).f10)) ∧ w'.cell? ⟨ad214.block, ad214.off + 14, none⟩ = some (.bool ((rd_T38 t210 0).f11)) ∧ w'.cell? ad214 = some (.int .u64 ((rd_T38 t210 0).f0)) ∧ w'.cell? ⟨ad214.block, ad214.off + 1, none⟩ = some (.int .i64 ((rd_T38 t210 0).f1)) ∧ w'.cell? ⟨ad214.block, ad214.off + 2, none⟩ = some (.bool ((rd_T38 t210 0).f2.f0)) ∧ w'.cell? ⟨ad214.block, ad214.off + 3, none⟩ = some (.string ((rd_T38 t210 0).f2.f1)) ∧ w'.cell? ⟨ad214.block, ad214.off + 4, none⟩ = some (.int .u64 ((rd_T38 t210 0).f2.f2)) ∧ w'.cell? ⟨ad214.block, ad214.off + 5, none⟩ = some (.int .i64 ((rd_T38 t210 0).f2.f3)) ∧ w'.cell? ⟨ad214.block, ad214.off + 6, none⟩ = some (.int .i64 ((rd_T38 t210 0).f3)) ∧ w'.cell? ⟨ad214.block, ad214.off + 7, none⟩ = some (.int .i64 ((rd_T38 t210 0).f4)) ∧ w'.cell? ⟨ad214.block, ad214.off + 8, none⟩ = some (.bool ((rd_T38 t210 0).f5)) ∧ w'.cell? ⟨ad214.block, ad214.off + 9, none⟩ = some (.bool ((rd_T38 t210 0).f6)) ∧ w'.cell? ⟨ad214.block, ad214.off + 10, none⟩ = some (.bool ((rd_T38 t210 0).f7)) ∧ w'.cell? ⟨ad214.block, ad214.off + 11, none⟩ = some (.bool ((rd_T38 t210 0).f8)) ∧ w'.cell? ⟨ad214.block, ad214.off + 12, none⟩ = some (.int .i64 ((rd_T38 t210 0).f9)) ∧ w'.cell? ⟨ad214.block, ad214.off + 13, none⟩ = some (.int .i64 ((rd_T38 t210 0).f10)) ∧ w'.cell? ⟨ad214.block, ad214.off + 14, none⟩ = some (.bool ((rd_T38 t210 0).f11))) (ds := []) #[false, false, false, false, false, false, false, false, false, false, false, false, false, false, false, false, false, false, false, false, false, false] (by kernel_rfl) rfl rfl ⟨hx214_0, hx214_1, hx214_2, hx214_3, hx214_4, hx214_5, hx214_6, hx214_7, hx214_8, hx214_9, hx214_10, hx214_11, hx214_12, hx214_13, hx214_14, hx215_0, hx215_1, hx215_2, hx215_3, hx215_4, hx215_5, hx215_6, hx215_7, hx215_8, hx215_9, hx215_10, hx215_11, hx215_12, hx215_13, hx215_14⟩ (fun hHeld => ?_); refine with_tabW laws_FnLineOperations.tab7 laws_FnLineOperations.bits7 (fun HT_ HW_ => ?_)
                      generalize w48.drew = w49 at HO200 HO206 HO209 HO212 BK193 HB hx214_0 hx214_1 hx214_10 hx214_11 hx214_12 hx214_13 hx214_14 hx214_2 hx214_3 hx214_4 hx214_5 hx214_6 hx214_7 hx214_8 hx214_9 hx215_0 hx215_1 hx215_10 hx215_11 hx215_12 hx215_13 hx215_14 hx215_2 hx215_3 hx215_4 hx215_5 hx215_6 hx215_7 hx215_8 hx215_9 hHeld ⊢
                      refine pure_ (i := 0) (N := some 78) (v := ?_) (a' := ?_) #[true, false, false, false, false, false, false, false, false, false, false, false, false, false, false, false, false, false, false, false, false, false] rfl rfl (any_of HT_.out (by kernel_rfl)) (fun _ _ _ h => h) (Or.inl ⟨by rfl, ?_⟩) ?_ ?_
                      rotate_left
                      · intro w'
                        go_simp
                        with_reducible rfl
                      rotate_left
                      · simp only [Act.put, zA, zB, zC, i64_w, i32_w]
                        rfl
                      refine pure_ (i := 1) (N := some 79) (v := ?_) (a' := ?_) #[true, true, false, false, false, false, false, false, false, false, false, false, false, false, false, false, false, false, false, false, false, false] rfl rfl (any_of HT_.out (by kernel_rfl)) (fun _ _ _ h => h) (Or.inl ⟨by rfl, ?_⟩) ?_ ?_
                      rotate_left
                      · intro w'
                        go_simp
                        with_reducible rfl
                      rotate_left
                      · simp only [Act.put, zA, zB, zC, i64_w, i32_w]
                        rfl
                      refine pure_ (i := 2) (N := some 80) (v := ?_) (a' := ?_) #[true, true, true, false, false, false, false, false, false, false, false, false, false, false, false, false, false, false, false, false, false, false] rfl rfl (any_of HT_.out (by kernel_rfl)) (fun _ _ _ h => h) (Or.inl ⟨by rfl, ?_⟩) ?_ ?_
                      rotate_left
                      · intro w'
                        go_simp
                        with_reducible rfl
                      rotate_left
                      · simp only [Act.put, zA, zB, zC, i64_w, i32_w]
                        rfl
                      refine pure_ (i := 3) (N := some 81) (v := ?_) (a' := ?_) #[true, true, true, true, false, false, false, false, false, false, false, false, false, false, false, false, false, false, false, false, false, false] rfl rfl (any_of HT_.out (by kernel_rfl)) (fun _ _ _ h => h) (Or.inl ⟨by rfl, ?_⟩) ?_ ?_
                      rotate_left
                      · intro w'
                        go_simp
                        with_reducible rfl
                      rotate_left
                      · simp only [Act.put, zA, zB, zC, i64_w, i32_w]
                        rfl
                      refine pure_ (i := 4) (N := some 82) (v := ?_) (a' := ?_) #[true, true, true, true, true, false, false, false, false, false, false, false, false, false, false, false, false, false, false, false, false, false] rfl rfl (any_of HT_.out (by kernel_rfl)) (fun _ _ _ h => h) (Or.inl ⟨by rfl, ?_⟩) ?_ ?_
                      rotate_left
                      · intro w'
                        go_simp
                        with_reducible rfl
                      rotate_left
                      · simp only [Act.put, zA, zB, zC, i64_w, i32_w]
                        rfl
                      refine pure_ (i := 6) (N := some 84) (v := ?_) (a' := ?_) #[true, true, true, true, true, false, true, false, false, false, false, false, false, false, false, false, false, false, false, false, false, false] rfl rfl (any_of HT_.out (by kernel_rfl)) (fun _ _ _ h => h) (Or.inl ⟨by rfl, ?_⟩) ?_ ?_
                      rotate_left
                      · intro w'
                        go_simp
                        with_reducible rfl
                      rotate_left
                      · simp only [Act.put, zA, zB, zC, i64_w, i32_w]
                        rfl
                      refine pure_ (i := 7) (N := some 85) (v := ?_) (a' := ?_) #[true, true, true, true, true, false, true, true, false, false, false, false, false, false, false, false, false, false, false, false, false, false] rfl rfl (any_of HT_.out (by kernel_rfl)) (fun _ _ _ h => h) (Or.inl ⟨by rfl, ?_⟩) ?_ ?_
                      rotate_left
                      · intro w'
                        go_simp
                        with_reducible rfl
                      rotate_left
                      · simp only [Act.put, zA, zB, zC, i64_w, i32_w]
                        rfl
                      refine pure_ (i := 8) (N := some 86) (v := ?_) (a' := ?_) #[true, true, true, true, true, false, true, true, true, false, false, false, false, false, false, false, false, false, false, false, false, false] rfl rfl (any_of HT_.out (by kernel_rfl)) (fun _ _ _ h => h) (Or.inl ⟨by rfl, ?_⟩) ?_ ?_
                      rotate_left
                      · intro w'
                        go_simp
                        with_reducible rfl
                      rotate_left
                      · simp only [Act.put, zA, zB, zC, i64_w, i32_w]
                        rfl
                      refine pure_ (i := 9) (N := some 87) (v := ?_) (a' := ?_) #[true, true, true, true, true, false, true, true, true, true, false, false, false, false, false, false, false, false, false, false, false, false] rfl rfl (any_of HT_.out (by kernel_rfl)) (fun _ _ _ h => h) (Or.inl ⟨by rfl, ?_⟩) ?_ ?_
                      rotate_left
                      · intro w'
                        go_simp
                        with_reducible rfl
                      rotate_left
                      · simp only [Act.put, zA, zB, zC, i64_w, i32_w]
                        rfl
                      refine pure_ (i := 10) (N := some 88) (v := ?_) (a' := ?_) #[true, true, true, true, true, false, true, true, true, true, true, false, false, false, false, false, false, false, false, false, false, false] rfl rfl (any_of HT_.out (by kernel_rfl)) (fun _ _ _ h => h) (Or.inl ⟨by rfl, ?_⟩) ?_ ?_
                      rotate_left
                      · intro w'
                        go_simp
                        with_reducible rfl
                      rotate_left
                      · simp only [Act.put, zA, zB, zC, i64_w, i32_w]
                        rfl
                      refine take_ (i := 5) (N := some 83) (v := ?_) (a' := ?_) #[true, true, true, true, true, true, true, true, true, true, true, false, false, false, false, false, false, false, false, false, false, false] rfl rfl (take_ofW HT_.out HW_.out (by kernel_rfl)) (fun _ _ _ h => h) (Or.inl ⟨by rfl, ?_⟩) hHeld ?_ ?_
                      rotate_left
                      · rintro w' ⟨s0, s1, s2, s3, s4, s5, s6, s7, s8, s9, s10, s11, s12, s13, s14, s15, s16, s17, s18, s19, s20, s21, s22, s23, s24, s25, s26, s27, s28, s29⟩
                        go_simp
                        with_reducible rfl
                      rotate_left
                      · simp only [Act.put, zA, zB, zC, i64_w, i32_w]
                        rfl
                      refine pure_ (i := 11) (N := some 89) (v := ?_) (a' := ?_) #[true, true, true, true, true, true, true, true, true, true, true, true, false, false, false, false, false, false, false, false, false, false] rfl rfl (any_of HT_.out (by kernel_rfl)) (fun _ _ _ h => h) (Or.inl ⟨by rfl, ?_⟩) ?_ ?_
                      rotate_left
                      · intro w'
                        go_simp
                        with_reducible rfl
                      rotate_left
                      · simp only [Act.put, zA, zB, zC, i64_w, i32_w]
                        rfl
                      refine pure_ (i := 12) (N := some 90) (v := ?_) (a' := ?_) #[true, true, true, true, true, true, true, true, true, true, true, true, true, false, false, false, false, false, false, false, false, false] rfl rfl (any_of HT_.out (by kernel_rfl)) (fun _ _ _ h => h) (Or.inl ⟨by rfl, ?_⟩) ?_ ?_
                      rotate_left
                      · intro w'
                        go_simp
                        with_reducible rfl
                      rotate_left
                      · simp only [Act.put, zA, zB, zC, i64_w, i32_w]
                        rfl
                      refine pure_ (i := 13) (N := some 91) (v := ?_) (a' := ?_) #[true, true, true, true, true, true, true, true, true, true, true, true, true, true, false, false, false, false, false, false, false, false] rfl rfl (any_of HT_.out (by kernel_rfl)) (fun _ _ _ h => h) (Or.inl ⟨by rfl, ?_⟩) ?_ ?_
                      rotate_left
                      · intro w'
                        go_simp
                        with_reducible rfl
                      rotate_left
                      · simp only [Act.put, zA, zB, zC, i64_w, i32_w]
                        rfl
                      refine pure_ (i := 14) (N := some 92) (v := ?_) (a' := ?_) #[true, true, true, true, true, true, true, true, true, true, true, true, true, true, true, false, false, false, false, false, false, false] rfl rfl (any_of HT_.out (by kernel_rfl)) (fun _ _ _ h => h) (Or.inl ⟨by rfl, ?_⟩) ?_ ?_
                      rotate_left
                      · intro w'
                        go_simp
                        with_reducible rfl
                      rotate_left
                      · simp only [Act.put, zA, zB, zC, i64_w, i32_w]
                        rfl
                      refine pure_ (i := 15) (N := some 93) (v := ?_) (a' := ?_) #[true, true, true, true, true, true, true, true, true, true, true, true, true, true, true, true, false, false, false, false, false, false] rfl rfl (any_of HT_.out (by kernel_rfl)) (fun _ _ _ h => h) (Or.inl ⟨by rfl, ?_⟩) ?_ ?_
                      rotate_left
                      · intro w'
                        go_simp
                        with_reducible rfl
                      rotate_left
                      · simp only [Act.put, zA, zB, zC, i64_w, i32_w]
                        rfl
                      refine pure_ (i := 16) (N := some 94) (v := ?_) (a' := ?_) #[true, true, true, true, true, true, true, true, true, true, true, true, true, true, true, true, true, false, false, false, false, false] rfl rfl (any_of HT_.out (by kernel_rfl)) (fun _ _ _ h => h) (Or.inl ⟨by rfl, ?_⟩) ?_ ?_
                      rotate_left
                      · intro w'
                        go_simp
                        with_reducible rfl
                      rotate_left
                      · simp only [Act.put, zA, zB, zC, i64_w, i32_w]
                        rfl
                      refine pure_ (i := 18) (N := some 96) (v := ?_) (a' := ?_) #[true, true, true, true, true, true, true, true, true, true, true, true, true, true, true, true, true, false, true, false, false, false] rfl rfl (any_of HT_.out (by kernel_rfl)) (fun _ _ _ h => h) (Or.inl ⟨by rfl, ?_⟩) ?_ ?_
                      rotate_left
                      · intro w'
                        go_simp
                        with_reducible rfl
                      rotate_left
                      · simp only [Act.put, zA, zB, zC, i64_w, i32_w]
                        rfl
                      refine take_ (i := 17) (N := some 95) (v := ?_) (a' := ?_) #[true, true, true, true, true, true, true, true, true, true, true, true, true, true, true, true, true, true, true, false, false, false] rfl rfl (take_ofW HT_.out HW_.out (by kernel_rfl)) (fun _ _ _ h => h) (Or.inl ⟨by rfl, ?_⟩) hHeld ?_ ?_
                      rotate_left
                      · rintro w' ⟨s0, s1, s2, s3, s4, s5, s6, s7, s8, s9, s10, s11, s12, s13, s14, s15, s16, s17, s18, s19, s20, s21, s22, s23, s24, s25, s26, s27, s28, s29⟩
                        go_simp
                        with_reducible rfl
                      rotate_left
                      · simp only [Act.put, zA, zB, zC, i64_w, i32_w]
                        rfl
                      refine pure_ (i := 19) (N := some 97) (v := ?_) (a' := ?_) #[true, true, true, true, true, true, true, true, true, true, true, true, true, true, true, true, true, true, true, true, false, false] rfl rfl (any_of HT_.out (by kernel_rfl)) (fun _ _ _ h => h) (Or.inl ⟨by rfl, ?_⟩) ?_ ?_
                      rotate_left
                      · intro w'
                        go_simp
                        with_reducible rfl
                      rotate_left
                      · simp only [Act.put, zA, zB, zC, i64_w, i32_w]
                        rfl
                      refine pure_ (i := 20) (N := some 98) (v := ?_) (a' := ?_) #[true, true, true, true, true, true, true, true, true, true, true, true, true, true, true, true, true, true, true, true, true, false] rfl rfl (any_of HT_.out (by kernel_rfl)) (fun _ _ _ h => h) (Or.inl ⟨by rfl, ?_⟩) ?_ ?_
                      rotate_left
                      · intro w'
                        go_simp
                        with_reducible rfl
                      rotate_left
                      · simp only [Act.put, zA, zB, zC, i64_w, i32_w]
                        rfl
                      refine pure_ (i := 21) (N := some 12) (v := ?_) (a' := ?_) #[true, true, true, true, true, true, true, true, true, true, true, true, true, true, true, true, true, true, true, true, true, true] rfl rfl (any_of HT_.out (by kernel_rfl)) (fun _ _ _ h => h) (Or.inl ⟨by rfl, ?_⟩) ?_ ?_
                      rotate_left
                      · intro w'
                        go_simp
                        with_reducible rfl
                      rotate_left
                      · simp only [Act.put, zA, zB, zC, i64_w, i32_w]
                        rfl
                      refine done_ (done_of HT_.out (by kernel_rfl)) ?_
                      try go_wp2
                      go_ret
                      exact ⟨by first | rfl | (simp [errW_none, errW_some] <;> rfl) | (simp [*, errW_none, errW_some] <;> rfl), by repeat (first | (with_reducible first | exact HB.out | apply below_alloc | apply pw_below_drewN | apply below_drew1 | refine below_set ?_ GE193.out) | exact HB.out)⟩
                    · rw [if_neg c34] at H
                      have c34b0 : (((rd_T38 t210 0).f1) == (Int.tmod (wrap64 (a4 + (wrap64 (Int.tdiv (wrap64 (255 - a3)) a2)))) a0)) = false := beq_eq_false_iff_ne.mpr c34
                      have c34b1 : (((rd_T38 t210 0).f1) != (Int.tmod (wrap64 (a4 + (wrap64 (Int.tdiv (wrap64 (255 - a3)) a2)))) a0)) = true := bne_iff_ne.mpr c34
                      exact absurd (Option.some.inj H) (by rw [HRT.out]; decide)
                  · rw [if_neg c33] at H
                    exact absurd H (by simp)
                · replace c32 := Bool.eq_false_iff.mpr c32
                  subst c32
                  have H1 : (some false) = some r := by rw [if_neg (show ¬ (false = true) by decide)] at H; exact H
                  clear H
                  have H := H1
                  clear H1
                  exact absurd (Option.some.inj H) (by rw [HRT.out]; decide)
              · rw [if_neg c30] at H
                exact absurd H (by simp)
            · rw [if_neg c29] at H
              exact absurd H (by simp)
/-- THE ONE PURE STATEMENT of laws_FnLineOperations: yours. -/
def laws_FnLineOperations.Pure : Prop := ∀ (a0 : Int) (a1 : Int) (a2 : Int) (a3 : Int) (a4 : Int) (a5 : Int), (Lit.int .i64 a0).wf = true → (Lit.int .i64 a1).wf = true → (Lit.int .i64 a2).wf = true → (Lit.int .i64 a3).wf = true → (Lit.int .i64 a4).wf = true → (Lit.int .u64 a5).wf = true → ∃ k, laws_FnLineOperations.f k a0 a1 a2 a3 a4 a5 = some true
theorem laws_FnLineOperations.walk (P : laws_FnLineOperations.Pure) (a0 : Int) (a1 : Int) (a2 : Int) (a3 : Int) (a4 : Int) (a5 : Int) (w : World) (w0 : (Lit.int .i64 a0).wf = true) (w1 : (Lit.int .i64 a1).wf = true) (w2 : (Lit.int .i64 a2).wf = true) (w3 : (Lit.int .i64 a3).wf = true) (w4 : (Lit.int .i64 a4).wf = true) (w5 : (Lit.int .u64 a5).wf = true) (hG : Glob w) :
    Calls Tryd.prog 8 #[.int .i64 a0, .int .i64 a1, .int .i64 a2, .int .i64 a3, .int .i64 a4, .int .u64 a5] w fun e w' => e = .returned (.bool true) ∧ Below w.heap.size w w' := by
  obtain ⟨k, h⟩ := P a0 a1 a2 a3 a4 a5 w0 w1 w2 w3 w4 w5
  refine (laws_FnLineOperations.calls k a0 a1 a2 a3 a4 a5 true w h hG rfl).mono ?_
  rintro e w' ⟨rfl, hd⟩
  exact ⟨rfl, hd⟩
end Go.Proofs.YtnooghnbohjmlaaDoor.PPl
