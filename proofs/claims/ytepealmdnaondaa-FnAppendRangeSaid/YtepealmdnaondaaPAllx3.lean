-- Printed by a program of this session (mkprint.py over the kit's print.py)
import Derived.Test.YtepealmdnaondaaPAllx0
import Derived.Test.YtepealmdnaondaaPAllx1
import Derived.Test.YtepealmdnaondaaPAllx2
import Derived.Test.YtepealmdnaondaaGiven3
import Derived.Test.YtepealmdnaondaaExtra
namespace Go.Proofs.Ytepealmdnaondaa.PAll
open Go.RowKit Go.Proofs.YtepealmdnaondaaW.PrintWords Go.Proofs.YtepealmdnaondaaW.PrintLast Go.Proofs.YtepealmdnaondaaW.PrintMore
attribute [local go_sem] max2_int min2_int max_two min_two max_three min_three max_four min_four   -- for this text's walks alone
set_option linter.unusedVariables false
set_option linter.unusedSimpArgs false

attribute [local go_sem high] eqA24
/-! ### laws_FnAppendRange: function 3 -/
def laws_FnAppendRange.j0 : Nat → List (S24) → Int → List (S24) → Bool → Int → Int → Option (Bool)
  | 0, _, _, _, _, _, _ => none
  | k + 1, x0, x5, x6, x41, x104000, x104001 => if x41 = true then ((some (([] : List (S24)) : List (S24))).bind fun y112 => (if y112.length + x0.length < 8796093022208 then ((some (y112 ++ x0 : List (S24))).bind fun y115 => ((some (([(⟨x104000, x104001⟩ : S24)] : List (S24)) : List (S24))).bind fun y118 => (if y115.length + y118.length < 8796093022208 then ((laws_sameRanges.f k x6 (y115 ++ y118)).bind fun t124 => (some t124)) else (none)))) else (none))) else (if 0 ≤ (wrap64 (x5 - 1)) then (if (wrap64 (x5 - 1)) < (x0.length : Int) then (if x104000 < ((rd_T24 x0 (wrap64 (x5 - 1))).f1) then (some true) else (if (x6.length : Int) = x5 then (if (wrap64 (x5 - 1)) ≤ (x6.length : Int) then (if (wrap64 (x5 - 1)) ≤ (x0.length : Int) then ((laws_sameRanges.f k (x6.take ((wrap64 (x5 - 1)) : Int).toNat) (x0.take ((wrap64 (x5 - 1)) : Int).toNat)).bind fun t134 => (if t134 = true then (if (wrap64 (x5 - 1)) < (x6.length : Int) then (some (((rd_T24 x6 (wrap64 (x5 - 1))).f0) == ((rd_T24 x0 (wrap64 (x5 - 1))).f0) && (((rd_T24 x6 (wrap64 (x5 - 1))).f1) == x104001))) else (none)) else (some false))) else (none)) else (none)) else (some false))) else (none)) else (none))
def laws_FnAppendRange.f (k : Nat) (l0 : List (S24)) (a1_0 : Int) (a1_1 : Int) : Option (Bool) := if (l0.length : Int) > 2147483647 then (some true) else (if (l0.length : Int) > 65536 then (some true) else ((impl_AppendRange.f l0 a1_0 a1_1).bind fun t104 => ((impl_AppendRange.f ([] : List (S24)) 1 2).bind fun t107 => (if (t107.length : Int) = 1 then (if a1_0 ≥ a1_1 then ((laws_sameRanges.f k t104 l0).bind fun t110 => (some t110)) else (if (l0.length : Int) = 0 then (laws_FnAppendRange.j0 k l0 (l0.length : Int) t104 true a1_0 a1_1) else (if 0 ≤ (wrap64 ((l0.length : Int) - 1)) then (if (wrap64 ((l0.length : Int) - 1)) < (l0.length : Int) then (laws_FnAppendRange.j0 k l0 (l0.length : Int) t104 (decide (a1_0 > ((rd_T24 l0 (wrap64 ((l0.length : Int) - 1))).f1))) a1_0 a1_1) else (none)) else (none)))) else (some false)))))
theorem laws_FnAppendRange.mono_l : ∀ k, (∀ y0 y1 y2 y3 y4 y5, LeO (laws_FnAppendRange.j0 k y0 y1 y2 y3 y4 y5) (laws_FnAppendRange.j0 (k + 1) y0 y1 y2 y3 y4 y5))
  | 0 => fun _ _ _ _ _ _ r h => by simp [laws_FnAppendRange.j0] at h
  | k + 1 => by
    have ih0 := laws_FnAppendRange.mono_l k
    · intro y0 y1 y2 y3 y4 y5
      unfold laws_FnAppendRange.j0
      repeat' first
      | (with_reducible exact ih0 _ _ _ _ _ _)
      | (with_reducible exact laws_sameRanges.mono _ _ _)
      | (with_reducible exact LeO.refl _)
      | (with_reducible exact LeO.none _)
      | (with_reducible refine LeO.ite ?_ ?_)
      | (with_reducible refine LeO.bind ?_ (fun _ => ?_))
      | exact ih0 _ _ _ _ _ _
      | exact laws_sameRanges.mono _ _ _
      | exact LeO.none _
      | refine LeO.ite ?_ ?_
      | refine LeO.bind ?_ (fun _ => ?_)
theorem laws_FnAppendRange.mono : ∀ a0 a1 a2 k, LeO (laws_FnAppendRange.f k a0 a1 a2) (laws_FnAppendRange.f (k + 1) a0 a1 a2) := by
  intro a0 a1 a2 k
  have ih0 := laws_FnAppendRange.mono_l k
  unfold laws_FnAppendRange.f
  repeat' first
      | (with_reducible exact ih0 _ _ _ _ _ _)
      | (with_reducible exact laws_sameRanges.mono _ _ _)
      | (with_reducible exact LeO.refl _)
      | (with_reducible exact LeO.none _)
      | (with_reducible refine LeO.ite ?_ ?_)
      | (with_reducible refine LeO.bind ?_ (fun _ => ?_))
      | exact ih0 _ _ _ _ _ _
      | exact laws_sameRanges.mono _ _ _
      | exact LeO.none _
      | refine LeO.ite ?_ ?_
      | refine LeO.bind ?_ (fun _ => ?_)
def laws_FnAppendRange.T11 : Bool × List (List Nat × List Nat) := (true, [([], []), ([0], [0]), ([1], [1]), ([2], [2]), ([3, 2], [2, 3]), ([2], [2]), ([2], [2]), ([6, 2], [2, 6]), ([5, 7, 2], [2, 5, 7]), ([8, 2], [2, 8]), ([9, 2], [2, 9]), ([4, 10, 2], [2, 4, 10]), ([2, 11], [2, 11])])
def laws_FnAppendRange.B11 : List Nat := [0, 1, 3, 7, 15, 7, 7, 71, 231, 487, 999, 2047, 4095]
theorem laws_FnAppendRange.tab11 : rtab .any (opsOf Try.f3 11) = laws_FnAppendRange.T11 := by kernel_rfl
theorem laws_FnAppendRange.bits11 : waitsOk laws_FnAppendRange.T11.2 laws_FnAppendRange.B11 = true := by kernel_rfl
def laws_FnAppendRange.T12 : Bool × List (List Nat × List Nat) := (true, [([], []), ([], []), ([], []), ([1, 2], [1, 2]), ([], []), ([4], [4]), ([3, 5, 3], [3, 5]), ([0, 6, 6], [0, 6]), ([7, 7, 0, 1, 2, 3, 4, 5, 6, 7], [7])])
def laws_FnAppendRange.B12 : List Nat := [0, 0, 0, 6, 0, 16, 62, 127, 255]
theorem laws_FnAppendRange.tab12 : rtab .any (opsOf Try.f3 12) = laws_FnAppendRange.T12 := by kernel_rfl
theorem laws_FnAppendRange.bits12 : waitsOk laws_FnAppendRange.T12.2 laws_FnAppendRange.B12 = true := by kernel_rfl
def laws_FnAppendRange.T13 : Bool × List (List Nat × List Nat) := (true, [([], []), ([0], [0]), ([], []), ([], []), ([3], [3]), ([2, 4], [2, 4]), ([5], [5]), ([6], [6]), ([1, 7], [1, 7])])
def laws_FnAppendRange.B13 : List Nat := [0, 1, 0, 0, 8, 28, 60, 124, 255]
theorem laws_FnAppendRange.tab13 : rtab .any (opsOf Try.f3 13) = laws_FnAppendRange.T13 := by kernel_rfl
theorem laws_FnAppendRange.bits13 : waitsOk laws_FnAppendRange.T13.2 laws_FnAppendRange.B13 = true := by kernel_rfl
def laws_FnAppendRange.T15 : Bool × List (List Nat × List Nat) := (true, [([], []), ([0], [0]), ([], []), ([1, 2], [1, 2]), ([3], [3]), ([4], [4]), ([4], [4]), ([6, 4], [4, 6]), ([5, 7, 4], [4, 5, 7]), ([4], [4]), ([4], [4]), ([10, 4], [4, 10]), ([9, 11, 4], [4, 9, 11]), ([8, 12, 4, 4], [4, 8, 12]), ([4, 13], [4, 13]), ([14, 13], [14]), ([15], [15]), ([15], [15]), ([17, 15], [15, 17]), ([16, 18, 15], [15, 16, 18]), ([19, 15], [15, 19]), ([15], [15]), ([15], [15]), ([22, 15], [15, 22]), ([21, 23, 15], [15, 21, 23]), ([24, 15], [15, 24]), ([25, 15], [15, 25]), ([15], [15]), ([27, 15], [15, 27]), ([26, 28, 15], [15, 26, 28]), ([20, 29, 15], [15, 20, 29]), ([15, 30], [15, 30]), ([31, 15, 0, 1, 2, 3, 4, 5, 6, 7, 8, 9, 10, 11, 12, 13, 14, 15, 16, 17, 18, 19, 20, 21, 22, 23, 24, 25, 26, 27, 28, 29, 30, 31], [31])])
def laws_FnAppendRange.B15 : List Nat := [0, 1, 0, 7, 15, 31, 31, 95, 255, 31, 31, 1055, 3615, 8191, 16383, 32767, 65535, 65535, 196607, 524287, 1048575, 65535, 65535, 4259839, 14745599, 31522815, 65077247, 65535, 134283263, 534839295, 1073741823, 2147483647, 4294967295]
theorem laws_FnAppendRange.tab15 : rtab .any (opsOf Try.f3 15) = laws_FnAppendRange.T15 := by kernel_rfl
theorem laws_FnAppendRange.bits15 : waitsOk laws_FnAppendRange.T15.2 laws_FnAppendRange.B15 = true := by kernel_rfl
set_option maxHeartbeats 8000000 in
set_option maxRecDepth 100000 in
theorem laws_FnAppendRange.calls (k : Nat) (A0 : Option Addr) (c0 : Nat) (l0 : List (S24)) (a1_0 : Int) (a1_1 : Int) (r : Bool) (w : World) (hr0 : Kd.C k24 w A0 l0.length l0) (hc0 : l0.length ≤ c0) (h : laws_FnAppendRange.f k l0 a1_0 a1_1 = some r) :
    Calls Try.prog 3 #[.slice A0 l0.length c0, .agg #[.int .i64 a1_0, .int .i64 a1_1]] w fun e w' => e = .returned (.bool r) ∧ Below w.heap.size w w' := by
  have hu24 := Try.underlying24
  have HR0 := Aside0.mk hr0
  have HC0 := Aside0.mk hc0
  clear hr0 hc0
  have HB := Aside0.mk (Below.refl w.heap.size w)
  have H : (if (l0.length : Int) > 2147483647 then (some true) else (if (l0.length : Int) > 65536 then (some true) else ((impl_AppendRange.f l0 a1_0 a1_1).bind fun t104 => ((impl_AppendRange.f ([] : List (S24)) 1 2).bind fun t107 => (if (t107.length : Int) = 1 then (if a1_0 ≥ a1_1 then ((laws_sameRanges.f k t104 l0).bind fun t110 => (some t110)) else (if (l0.length : Int) = 0 then (laws_FnAppendRange.j0 k l0 (l0.length : Int) t104 true a1_0 a1_1) else (if 0 ≤ (wrap64 ((l0.length : Int) - 1)) then (if (wrap64 ((l0.length : Int) - 1)) < (l0.length : Int) then (laws_FnAppendRange.j0 k l0 (l0.length : Int) t104 (decide (a1_0 > ((rd_T24 l0 (wrap64 ((l0.length : Int) - 1))).f1))) a1_0 a1_1) else (none)) else (none)))) else (some false)))))) = some r := h
  clear h
  by_cases c3 : (l0.length : Int) > 2147483647
  · rw [if_pos c3] at H
    have c3b0 : decide (2147483647 < (l0.length : Int)) = true := decide_eq_true c3
    have c3b1 : decide (2147483647 < l0.length) = true := decide_eq_true (by omega)
    clear c3
    obtain rfl := Option.some.inj H
    go_enter Try.func3, Try.ntmps3
    go_wp2_with (first | ((with_reducible refine gate_dst (N := 3) rfl ?_); refine box_event ?hg (N := 3) ?hd (cs := #[.int .i64 a1_0, .int .i64 a1_1]) (t := 24) ?hr ?_; (case hd => rfl); (case hg => rfl); (case hr => first | (go_simp; done) | (go_simp; rfl)); intro gb103 hg w4 hbox hb; have n0_ := Aside0.mk (below_step (by repeat (first | (with_reducible first | exact HB.out | apply below_alloc | apply pw_below_drewN | apply below_drew1) | exact HB.out)) hb); have n1_ := Aside0.mk (hbox); have n2_ := Aside0.mk ((by rw [hg]; exact (below_size (by repeat (first | (with_reducible first | exact HB.out | apply below_alloc | apply pw_below_drewN | apply below_drew1) | exact HB.out))) : w.heap.size ≤ gb103)); have n3_ := Aside0.mk ((by rw [hg]; exact (below_size (by repeat (first | (with_reducible first | exact HB.out | apply below_alloc | apply pw_below_drewN | apply below_drew1) | exact HB.out))) : w.heap.size ≤ gb103)); clear HB; have HB := n0_; have BK103 := n1_; have GW103 := n2_; have GE103 := n3_; clear n0_ n1_ n2_ n3_; clear hb hbox hg))
    go_ret
    exact ⟨by first | rfl | (simp [errW_none, errW_some] <;> rfl) | (simp [*, errW_none, errW_some] <;> rfl), by repeat (first | (with_reducible first | exact HB.out | apply below_alloc | apply pw_below_drewN | apply below_drew1 | refine below_set ?_ GE103.out) | exact HB.out)⟩
  · rw [if_neg c3] at H
    have c3b0 : decide (2147483647 < (l0.length : Int)) = false := decide_eq_false c3
    have c3b1 : decide (2147483647 < l0.length) = false := decide_eq_false (by omega)
    clear c3
    by_cases c5 : (l0.length : Int) > 65536
    · rw [if_pos c5] at H
      have c5b0 : decide (65536 < (l0.length : Int)) = true := decide_eq_true c5
      have c5b1 : decide (65536 < l0.length) = true := decide_eq_true (by omega)
      clear c5
      obtain rfl := Option.some.inj H
      go_enter Try.func3, Try.ntmps3
      go_wp2_with (first | ((with_reducible refine gate_dst (N := 3) rfl ?_); refine box_event ?hg (N := 3) ?hd (cs := #[.int .i64 a1_0, .int .i64 a1_1]) (t := 24) ?hr ?_; (case hd => rfl); (case hg => rfl); (case hr => first | (go_simp; done) | (go_simp; rfl)); intro gb103 hg w6 hbox hb; have n0_ := Aside0.mk (below_step (by repeat (first | (with_reducible first | exact HB.out | apply below_alloc | apply pw_below_drewN | apply below_drew1) | exact HB.out)) hb); have n1_ := Aside0.mk (hbox); have n2_ := Aside0.mk ((by rw [hg]; exact (below_size (by repeat (first | (with_reducible first | exact HB.out | apply below_alloc | apply pw_below_drewN | apply below_drew1) | exact HB.out))) : w.heap.size ≤ gb103)); have n3_ := Aside0.mk ((by rw [hg]; exact (below_size (by repeat (first | (with_reducible first | exact HB.out | apply below_alloc | apply pw_below_drewN | apply below_drew1) | exact HB.out))) : w.heap.size ≤ gb103)); clear HB; have HB := n0_; have BK103 := n1_; have GW103 := n2_; have GE103 := n3_; clear n0_ n1_ n2_ n3_; clear hb hbox hg))
      go_ret
      exact ⟨by first | rfl | (simp [errW_none, errW_some] <;> rfl) | (simp [*, errW_none, errW_some] <;> rfl), by repeat (first | (with_reducible first | exact HB.out | apply below_alloc | apply pw_below_drewN | apply below_drew1 | refine below_set ?_ GE103.out) | exact HB.out)⟩
    · rw [if_neg c5] at H
      have c5b0 : decide (65536 < (l0.length : Int)) = false := decide_eq_false c5
      have c5b1 : decide (65536 < l0.length) = false := decide_eq_false (by omega)
      clear c5
      replace H := Option.bind_eq_some_iff.mp H
      obtain ⟨t104, A70, H⟩ := H
      replace H : ((impl_AppendRange.f ([] : List (S24)) 1 2).bind fun t107 => (if (t107.length : Int) = 1 then (if a1_0 ≥ a1_1 then ((laws_sameRanges.f k t104 l0).bind fun t110 => (some t110)) else (if (l0.length : Int) = 0 then (laws_FnAppendRange.j0 k l0 (l0.length : Int) t104 true a1_0 a1_1) else (if 0 ≤ (wrap64 ((l0.length : Int) - 1)) then (if (wrap64 ((l0.length : Int) - 1)) < (l0.length : Int) then (laws_FnAppendRange.j0 k l0 (l0.length : Int) t104 (decide (a1_0 > ((rd_T24 l0 (wrap64 ((l0.length : Int) - 1))).f1))) a1_0 a1_1) else (none)) else (none)))) else (some false))) = some r := H
      have A7 := Aside0.mk A70
      clear A70
      replace H := Option.bind_eq_some_iff.mp H
      obtain ⟨t107, A80, H⟩ := H
      replace H : (if (t107.length : Int) = 1 then (if a1_0 ≥ a1_1 then ((laws_sameRanges.f k t104 l0).bind fun t110 => (some t110)) else (if (l0.length : Int) = 0 then (laws_FnAppendRange.j0 k l0 (l0.length : Int) t104 true a1_0 a1_1) else (if 0 ≤ (wrap64 ((l0.length : Int) - 1)) then (if (wrap64 ((l0.length : Int) - 1)) < (l0.length : Int) then (laws_FnAppendRange.j0 k l0 (l0.length : Int) t104 (decide (a1_0 > ((rd_T24 l0 (wrap64 ((l0.length : Int) - 1))).f1))) a1_0 a1_1) else (none)) else (none)))) else (some false)) = some r := H
      have A8 := Aside0.mk A80
      clear A80
      by_cases c9 : (t107.length : Int) = 1
      · rw [if_pos c9] at H
        have c9b0 : ((t107.length : Int) == 1) = true := beq_iff_eq.mpr c9
        have c9b1 : ((t107.length : Int) != 1) = false := bne_eq_false_iff_eq.mpr c9
        clear c9
        by_cases c10 : a1_0 ≥ a1_1
        · rw [if_pos c10] at H
          have c10b0 : decide (a1_1 ≤ a1_0) = true := decide_eq_true c10
          clear c10
          replace H := Option.bind_eq_some_iff.mp H
          obtain ⟨t110, A110, H⟩ := H
          replace H : (some t110) = some r := H
          have A11 := Aside0.mk A110
          clear A110
          obtain rfl := Option.some.inj H
          go_enter Try.func3, Try.ntmps3
          go_wp2_with (first | ((with_reducible refine gate_dst (N := 3) rfl ?_); refine box_event ?hg (N := 3) ?hd (cs := #[.int .i64 a1_0, .int .i64 a1_1]) (t := 24) ?hr ?_; (case hd => rfl); (case hg => rfl); (case hr => first | (go_simp; done) | (go_simp; rfl)); intro gb103 hg w12 hbox hb; have n0_ := Aside0.mk (below_step (by repeat (first | (with_reducible first | exact HB.out | apply below_alloc | apply pw_below_drewN | apply below_drew1) | exact HB.out)) hb); have n1_ := Aside0.mk (hbox); have n2_ := Aside0.mk ((by rw [hg]; exact (below_size (by repeat (first | (with_reducible first | exact HB.out | apply below_alloc | apply pw_below_drewN | apply below_drew1) | exact HB.out))) : w.heap.size ≤ gb103)); have n3_ := Aside0.mk ((by rw [hg]; exact (below_size (by repeat (first | (with_reducible first | exact HB.out | apply below_alloc | apply pw_below_drewN | apply below_drew1) | exact HB.out))) : w.heap.size ≤ gb103)); clear HB; have HB := n0_; have BK103 := n1_; have GW103 := n2_; have GE103 := n3_; clear n0_ n1_ n2_ n3_; clear hb hbox hg; have hcz13_0 : w12.cell? ⟨gb103, 0, none⟩ = some (.int .i64 a1_0) := (blk_cell BK103.out 0).trans rfl; have hcz13_1 : w12.cell? ⟨gb103, 1, none⟩ = some (.int .i64 a1_1) := (blk_cell BK103.out 1).trans rfl; have hfz13_0 := blk_frozen BK103.out 0; have hfz13_1 := blk_frozen BK103.out 1) | ((with_reducible refine gate_callee (f := 11) rfl ?_); refine goesL_ (some 16) rfl rfl Try.func11 (by kernel_rfl) rfl #[.slice A0 l0.length c0, .agg #[.int .i64 a1_0, .int .i64 a1_1]] rfl (by (try simp only [List.map_toArray, List.map_cons, List.map_nil]); first | done | rfl | (simp only [List.length_drop, List.length_take]; rfl)) ?_; (with_reducible refine (impl_AppendRange.calls _ _ l0 a1_0 a1_1 t104 _ ?side1 ?side2 A7.out).mono ?_); (case side1 => repeat (first | exact (Kd.C_below HR0.out HB.out) | (with_reducible refine Kd.C_alloc ?_ _) | (with_reducible refine Kd.C_drewN ?_ _) | (with_reducible refine Kd.C_drew ?_))); (case side2 => exact HC0.out); rintro e w14 ⟨v105, rfl, ho0, hb⟩; refine ⟨_, rfl, ?_⟩; have n0_ := Aside0.mk (Kd.R_lower (Kd.R_newB ho0 (g := gb103) (o := .cells #[.int .i64 a1_0, .int .i64 a1_1] 24 (0, 0)) (by (with_reducible repeat (first | refine blk_drewN ?_ _ | refine blk_drew ?_ | refine blk_alloc ?_ _)); exact BK103.out)) (below_size (by repeat (first | (with_reducible first | exact HB.out | apply below_alloc | apply pw_below_drewN | apply below_drew1 | refine below_set ?_ GE103.out) | exact HB.out)))); have n1_ := Aside0.mk (blk_below (g := gb103) (o := .cells #[.int .i64 a1_0, .int .i64 a1_1] 24 (0, 0)) (by (with_reducible repeat (first | refine blk_drewN ?_ _ | refine blk_drew ?_ | refine blk_alloc ?_ _)); exact BK103.out) hb); have n2_ := Aside0.mk (below_step (by repeat (first | (with_reducible first | exact HB.out | apply below_alloc | apply pw_below_drewN | apply below_drew1 | refine below_set ?_ GE103.out) | exact HB.out)) hb); clear BK103; clear HB; have HO106 := n0_; have BK103 := n1_; have HB := n2_; clear n0_ n1_ n2_; (try clear hb); (try clear hb2); (try clear hk); (try clear hi); (try clear ho0)) | ((with_reducible refine gate_callee (f := 11) rfl ?_); refine goesL_ (some 18) rfl rfl Try.func11 (by kernel_rfl) rfl #[.slice none 0 0, .agg #[.int .i64 1, .int .i64 2]] rfl (by (try simp only [List.map_toArray, List.map_cons, List.map_nil]); first | done | rfl | (simp only [List.length_drop, List.length_take]; rfl)) ?_; (refine (impl_AppendRange.calls _ _ ([] : List (S24)) 1 2 t107 _ ?side1 ?side2 A8.out).mono ?_); (case side1 => exact Kd.C_nil _ _); (case side2 => exact Nat.le_refl _); rintro e w15 ⟨v108, rfl, ho0, hb⟩; refine ⟨_, rfl, ?_⟩; have n0_ := Aside0.mk (Kd.R_elder' (by (with_reducible repeat (first | apply Kd.R_alloc | apply Kd.R_drewN | apply Kd.R_drew)); exact HO106.out) (Kd.R_base ho0) hb); have n1_ := Aside0.mk (Kd.R_lower (Kd.R_newB (Kd.R_new' ho0 (Kd.R_lt (by (with_reducible repeat (first | apply Kd.R_alloc | apply Kd.R_drewN | apply Kd.R_drew)); exact HO106.out))) (g := gb103) (o := .cells #[.int .i64 a1_0, .int .i64 a1_1] 24 (0, 0)) (by (with_reducible repeat (first | refine blk_drewN ?_ _ | refine blk_drew ?_ | refine blk_alloc ?_ _)); exact BK103.out)) (below_size (by repeat (first | (with_reducible first | exact HB.out | apply below_alloc | apply pw_below_drewN | apply below_drew1 | refine below_set ?_ GE103.out) | exact HB.out)))); have n2_ := Aside0.mk (blk_below (g := gb103) (o := .cells #[.int .i64 a1_0, .int .i64 a1_1] 24 (0, 0)) (by (with_reducible repeat (first | refine blk_drewN ?_ _ | refine blk_drew ?_ | refine blk_alloc ?_ _)); exact BK103.out) hb); have n3_ := Aside0.mk (below_step (by repeat (first | (with_reducible first | exact HB.out | apply below_alloc | apply pw_below_drewN | apply below_drew1 | refine below_set ?_ GE103.out) | exact HB.out)) hb); clear HO106; clear BK103; clear HB; have HO106 := n0_; have HO109 := n1_; have BK103 := n2_; have HB := n3_; clear n0_ n1_ n2_ n3_; (try clear hb); (try clear hb2); (try clear hk); (try clear hi); (try clear ho0); obtain ⟨Ao16, co16, eo16⟩ := Kd.R_slice HO109.out; subst eo16; have hcz17_0 : w15.cell? ⟨gb103, 0, none⟩ = some (.int .i64 a1_0) := (blk_cell BK103.out 0).trans rfl; have hcz17_1 : w15.cell? ⟨gb103, 1, none⟩ = some (.int .i64 a1_1) := (blk_cell BK103.out 1).trans rfl; have hfz17_0 := blk_frozen BK103.out 0; have hfz17_1 := blk_frozen BK103.out 1; obtain ⟨Ao18, co18, eo18⟩ := Kd.R_slice HO106.out; subst eo18) | ((with_reducible refine gate_callee (f := 12) rfl ?_); refine goesL_ (some 28) rfl rfl Try.func12 (by kernel_rfl) rfl #[.slice Ao18 t104.length co18, .slice A0 l0.length c0] rfl (by (try simp only [List.map_toArray, List.map_cons, List.map_nil]); first | done | rfl | (simp only [List.length_drop, List.length_take]; rfl)) ?_; (with_reducible refine (laws_sameRanges.calls k _ _ t104 _ _ l0 t110 _ ?side1 ?side2 ?side3 ?side4 A11.out).mono ?_); (case side1 => repeat (first | exact (Kd.R_reads' HO106.out).2.2 | (with_reducible refine Kd.C_alloc ?_ _) | (with_reducible refine Kd.C_drewN ?_ _) | (with_reducible refine Kd.C_drew ?_))); (case side2 => exact (Kd.R_reads' HO106.out).2.1); (case side3 => repeat (first | exact (Kd.C_below HR0.out HB.out) | (with_reducible refine Kd.C_alloc ?_ _) | (with_reducible refine Kd.C_drewN ?_ _) | (with_reducible refine Kd.C_drew ?_))); (case side4 => exact HC0.out); rintro e w' ⟨rfl, ⟨nd, rfl⟩⟩; refine ⟨_, rfl, ?_⟩))
          go_ret
          exact ⟨by first | rfl | (simp [errW_none, errW_some] <;> rfl) | (simp [*, errW_none, errW_some] <;> rfl), by repeat (first | (with_reducible first | exact HB.out | apply below_alloc | apply pw_below_drewN | apply below_drew1 | refine below_set ?_ GE103.out) | exact HB.out)⟩
        · rw [if_neg c10] at H
          have c10b0 : decide (a1_1 ≤ a1_0) = false := decide_eq_false c10
          clear c10
          have HC19 := Aside0.mk H
          clear H
          go_enter Try.func3, Try.ntmps3
          go_upto_region 11 with (first | ((with_reducible refine gate_dst (N := 3) rfl ?_); refine box_event ?hg (N := 3) ?hd (cs := #[.int .i64 a1_0, .int .i64 a1_1]) (t := 24) ?hr ?_; (case hd => rfl); (case hg => rfl); (case hr => first | (go_simp; done) | (go_simp; rfl)); intro gb103 hg w20 hbox hb; have n0_ := Aside0.mk (below_step (by repeat (first | (with_reducible first | exact HB.out | apply below_alloc | apply pw_below_drewN | apply below_drew1) | exact HB.out)) hb); have n1_ := Aside0.mk (hbox); have n2_ := Aside0.mk ((by rw [hg]; exact (below_size (by repeat (first | (with_reducible first | exact HB.out | apply below_alloc | apply pw_below_drewN | apply below_drew1) | exact HB.out))) : w.heap.size ≤ gb103)); have n3_ := Aside0.mk ((by rw [hg]; exact (below_size (by repeat (first | (with_reducible first | exact HB.out | apply below_alloc | apply pw_below_drewN | apply below_drew1) | exact HB.out))) : w.heap.size ≤ gb103)); clear HB; have HB := n0_; have BK103 := n1_; have GW103 := n2_; have GE103 := n3_; clear n0_ n1_ n2_ n3_; clear hb hbox hg; have hcz21_0 : w20.cell? ⟨gb103, 0, none⟩ = some (.int .i64 a1_0) := (blk_cell BK103.out 0).trans rfl; have hcz21_1 : w20.cell? ⟨gb103, 1, none⟩ = some (.int .i64 a1_1) := (blk_cell BK103.out 1).trans rfl; have hfz21_0 := blk_frozen BK103.out 0; have hfz21_1 := blk_frozen BK103.out 1) | ((with_reducible refine gate_callee (f := 11) rfl ?_); refine goesL_ (some 16) rfl rfl Try.func11 (by kernel_rfl) rfl #[.slice A0 l0.length c0, .agg #[.int .i64 a1_0, .int .i64 a1_1]] rfl (by (try simp only [List.map_toArray, List.map_cons, List.map_nil]); first | done | rfl | (simp only [List.length_drop, List.length_take]; rfl)) ?_; (with_reducible refine (impl_AppendRange.calls _ _ l0 a1_0 a1_1 t104 _ ?side1 ?side2 A7.out).mono ?_); (case side1 => repeat (first | exact (Kd.C_below HR0.out HB.out) | (with_reducible refine Kd.C_alloc ?_ _) | (with_reducible refine Kd.C_drewN ?_ _) | (with_reducible refine Kd.C_drew ?_))); (case side2 => exact HC0.out); rintro e w22 ⟨v105, rfl, ho0, hb⟩; refine ⟨_, rfl, ?_⟩; have n0_ := Aside0.mk (Kd.R_lower (Kd.R_newB ho0 (g := gb103) (o := .cells #[.int .i64 a1_0, .int .i64 a1_1] 24 (0, 0)) (by (with_reducible repeat (first | refine blk_drewN ?_ _ | refine blk_drew ?_ | refine blk_alloc ?_ _)); exact BK103.out)) (below_size (by repeat (first | (with_reducible first | exact HB.out | apply below_alloc | apply pw_below_drewN | apply below_drew1 | refine below_set ?_ GE103.out) | exact HB.out)))); have n1_ := Aside0.mk (blk_below (g := gb103) (o := .cells #[.int .i64 a1_0, .int .i64 a1_1] 24 (0, 0)) (by (with_reducible repeat (first | refine blk_drewN ?_ _ | refine blk_drew ?_ | refine blk_alloc ?_ _)); exact BK103.out) hb); have n2_ := Aside0.mk (below_step (by repeat (first | (with_reducible first | exact HB.out | apply below_alloc | apply pw_below_drewN | apply below_drew1 | refine below_set ?_ GE103.out) | exact HB.out)) hb); clear BK103; clear HB; have HO106 := n0_; have BK103 := n1_; have HB := n2_; clear n0_ n1_ n2_; (try clear hb); (try clear hb2); (try clear hk); (try clear hi); (try clear ho0)) | ((with_reducible refine gate_callee (f := 11) rfl ?_); refine goesL_ (some 18) rfl rfl Try.func11 (by kernel_rfl) rfl #[.slice none 0 0, .agg #[.int .i64 1, .int .i64 2]] rfl (by (try simp only [List.map_toArray, List.map_cons, List.map_nil]); first | done | rfl | (simp only [List.length_drop, List.length_take]; rfl)) ?_; (refine (impl_AppendRange.calls _ _ ([] : List (S24)) 1 2 t107 _ ?side1 ?side2 A8.out).mono ?_); (case side1 => exact Kd.C_nil _ _); (case side2 => exact Nat.le_refl _); rintro e w23 ⟨v108, rfl, ho0, hb⟩; refine ⟨_, rfl, ?_⟩; have n0_ := Aside0.mk (Kd.R_elder' (by (with_reducible repeat (first | apply Kd.R_alloc | apply Kd.R_drewN | apply Kd.R_drew)); exact HO106.out) (Kd.R_base ho0) hb); have n1_ := Aside0.mk (Kd.R_lower (Kd.R_newB (Kd.R_new' ho0 (Kd.R_lt (by (with_reducible repeat (first | apply Kd.R_alloc | apply Kd.R_drewN | apply Kd.R_drew)); exact HO106.out))) (g := gb103) (o := .cells #[.int .i64 a1_0, .int .i64 a1_1] 24 (0, 0)) (by (with_reducible repeat (first | refine blk_drewN ?_ _ | refine blk_drew ?_ | refine blk_alloc ?_ _)); exact BK103.out)) (below_size (by repeat (first | (with_reducible first | exact HB.out | apply below_alloc | apply pw_below_drewN | apply below_drew1 | refine below_set ?_ GE103.out) | exact HB.out)))); have n2_ := Aside0.mk (blk_below (g := gb103) (o := .cells #[.int .i64 a1_0, .int .i64 a1_1] 24 (0, 0)) (by (with_reducible repeat (first | refine blk_drewN ?_ _ | refine blk_drew ?_ | refine blk_alloc ?_ _)); exact BK103.out) hb); have n3_ := Aside0.mk (below_step (by repeat (first | (with_reducible first | exact HB.out | apply below_alloc | apply pw_below_drewN | apply below_drew1 | refine below_set ?_ GE103.out) | exact HB.out)) hb); clear HO106; clear BK103; clear HB; have HO106 := n0_; have HO109 := n1_; have BK103 := n2_; have HB := n3_; clear n0_ n1_ n2_ n3_; (try clear hb); (try clear hb2); (try clear hk); (try clear hi); (try clear ho0); obtain ⟨Ao24, co24, eo24⟩ := Kd.R_slice HO109.out; subst eo24; have hcz25_0 : w23.cell? ⟨gb103, 0, none⟩ = some (.int .i64 a1_0) := (blk_cell BK103.out 0).trans rfl; have hcz25_1 : w23.cell? ⟨gb103, 1, none⟩ = some (.int .i64 a1_1) := (blk_cell BK103.out 1).trans rfl; have hfz25_0 := blk_frozen BK103.out 0; have hfz25_1 := blk_frozen BK103.out 1))
          (try simp only [Act.put, List.setIfInBounds_toArray, List.set_cons_zero, List.set_cons_succ])
          go_cut [41] (fun v41 wc => ∃ (kq : Nat) (x41_18 : Bool), v41 = .bool x41_18 ∧ Aside0 (laws_FnAppendRange.j0 kq l0 (l0.length : Int) t104 x41_18 a1_0 a1_1 = some r) ∧ Aside0 (kq ≤ k) ∧ Aside0 (Kd.R k24 24 wc w.heap.size (fun k_ => k_ ≠ gb103) v105 t104) ∧ Aside0 (wc.heap[gb103]? = some (.cells #[.int .i64 a1_0, .int .i64 a1_1] 24 (0, 0))) ∧ Aside0 (Below w.heap.size w wc))
          case first =>
            have H := HC19.out
            clear HC19
            by_cases c26 : (l0.length : Int) = 0
            · rw [if_pos c26] at H
              have c26b0 : ((l0.length : Int) == 0) = true := beq_iff_eq.mpr c26
              have c26b1 : ((l0.length : Int) != 0) = false := bne_eq_false_iff_eq.mpr c26
              clear c26
              (first | rw [c26b0] | (simp only [i64_w, i32_w]; rw [c26b0]) | skip)
              have H' := Aside0.mk H
              clear H
              try go_wp2
              have n0_ := Aside0.mk (Kd.R_drew HO106.out)
              have n1_ := Aside0.mk (Kd.R_drew HO109.out)
              have n2_ := Aside0.mk (blk_drew BK103.out)
              have n3_ := Aside0.mk (below_drew1 HB.out)
              clear HO106
              clear HO109
              clear BK103
              clear HB
              have HO106 := n0_
              have HO109 := n1_
              have BK103 := n2_
              have HB := n3_
              clear n0_ n1_ n2_ n3_
              refine start_ (n := 13) (S := fun w' => True) (ds := []) #[false, false, false, false, false, false, false, false, false, false, false, false, false] (by kernel_rfl) rfl rfl trivial (fun hHeld => ?_); refine with_tabW laws_FnAppendRange.tab11 laws_FnAppendRange.bits11 (fun HT_ HW_ => ?_)
              generalize w23.drew = w27 at HO106 HO109 BK103 HB hHeld ⊢
              refine pure_ (i := 0) (N := some 29) (v := ?_) (a' := ?_) #[true, false, false, false, false, false, false, false, false, false, false, false, false] rfl rfl (any_of HT_.out (by kernel_rfl)) (fun _ _ _ h => h) (Or.inl ⟨by rfl, ?_⟩) ?_ ?_
              rotate_left
              · intro w'
                go_simp
                with_reducible rfl
              rotate_left
              · simp only [Act.put, List.setIfInBounds_toArray, List.set_cons_zero, List.set_cons_succ, i64_w, i32_w]
                rfl
              refine pure_ (i := 1) (N := some 30) (v := ?_) (a' := ?_) #[true, true, false, false, false, false, false, false, false, false, false, false, false] rfl rfl (any_of HT_.out (by kernel_rfl)) (fun _ _ _ h => h) (Or.inl ⟨by rfl, ?_⟩) ?_ ?_
              rotate_left
              · intro w'
                go_simp
                with_reducible rfl
              rotate_left
              · simp only [Act.put, List.setIfInBounds_toArray, List.set_cons_zero, List.set_cons_succ, i64_w, i32_w]
                rfl
              refine pure_ (i := 2) (N := some 31) (v := ?_) (a' := ?_) #[true, true, true, false, false, false, false, false, false, false, false, false, false] rfl rfl (any_of HT_.out (by kernel_rfl)) (fun _ _ _ h => h) (Or.inl ⟨by rfl, ?_⟩) ?_ ?_
              rotate_left
              · intro w'
                go_simp
                with_reducible rfl
              rotate_left
              · simp only [Act.put, List.setIfInBounds_toArray, List.set_cons_zero, List.set_cons_succ, i64_w, i32_w]
                rfl
              refine pure_ (i := 3) (N := some 32) (v := undef) (a' := ?_) #[true, true, true, true, false, false, false, false, false, false, false, false, false] rfl rfl (any_of HT_.out (by kernel_rfl)) (fun _ _ _ h => h) (Or.inr ⟨by rfl, rfl⟩) ?_ ?_
              rotate_left
              · simp only [Act.put, List.setIfInBounds_toArray, List.set_cons_zero, List.set_cons_succ, i64_w, i32_w]
                rfl
              refine pure_ (i := 4) (N := some 33) (v := undef) (a' := ?_) #[true, true, true, true, true, false, false, false, false, false, false, false, false] rfl rfl (any_of HT_.out (by kernel_rfl)) (fun _ _ _ h => h) (Or.inr ⟨by rfl, rfl⟩) ?_ ?_
              rotate_left
              · simp only [Act.put, List.setIfInBounds_toArray, List.set_cons_zero, List.set_cons_succ, i64_w, i32_w]
                rfl
              refine pure_ (i := 5) (N := some 34) (v := undef) (a' := ?_) #[true, true, true, true, true, true, false, false, false, false, false, false, false] rfl rfl (any_of HT_.out (by kernel_rfl)) (fun _ _ _ h => h) (Or.inr ⟨by rfl, rfl⟩) ?_ ?_
              rotate_left
              · simp only [Act.put, List.setIfInBounds_toArray, List.set_cons_zero, List.set_cons_succ, i64_w, i32_w]
                rfl
              refine pure_ (i := 6) (N := some 35) (v := undef) (a' := ?_) #[true, true, true, true, true, true, true, false, false, false, false, false, false] rfl rfl (any_of HT_.out (by kernel_rfl)) (fun _ _ _ h => h) (Or.inr ⟨by rfl, rfl⟩) ?_ ?_
              rotate_left
              · simp only [Act.put, List.setIfInBounds_toArray, List.set_cons_zero, List.set_cons_succ, i64_w, i32_w]
                rfl
              refine pure_ (i := 7) (N := some 36) (v := undef) (a' := ?_) #[true, true, true, true, true, true, true, true, false, false, false, false, false] rfl rfl (any_of HT_.out (by kernel_rfl)) (fun _ _ _ h => h) (Or.inr ⟨by rfl, rfl⟩) ?_ ?_
              rotate_left
              · simp only [Act.put, List.setIfInBounds_toArray, List.set_cons_zero, List.set_cons_succ, i64_w, i32_w]
                rfl
              refine pure_ (i := 8) (N := some 37) (v := undef) (a' := ?_) #[true, true, true, true, true, true, true, true, true, false, false, false, false] rfl rfl (any_of HT_.out (by kernel_rfl)) (fun _ _ _ h => h) (Or.inr ⟨by rfl, rfl⟩) ?_ ?_
              rotate_left
              · simp only [Act.put, List.setIfInBounds_toArray, List.set_cons_zero, List.set_cons_succ, i64_w, i32_w]
                rfl
              refine pure_ (i := 9) (N := some 38) (v := undef) (a' := ?_) #[true, true, true, true, true, true, true, true, true, true, false, false, false] rfl rfl (any_of HT_.out (by kernel_rfl)) (fun _ _ _ h => h) (Or.inr ⟨by rfl, rfl⟩) ?_ ?_
              rotate_left
              · simp only [Act.put, List.setIfInBounds_toArray, List.set_cons_zero, List.set_cons_succ, i64_w, i32_w]
                rfl
              refine pure_ (i := 10) (N := some 39) (v := undef) (a' := ?_) #[true, true, true, true, true, true, true, true, true, true, true, false, false] rfl rfl (any_of HT_.out (by kernel_rfl)) (fun _ _ _ h => h) (Or.inr ⟨by rfl, rfl⟩) ?_ ?_
              rotate_left
              · simp only [Act.put, List.setIfInBounds_toArray, List.set_cons_zero, List.set_cons_succ, i64_w, i32_w]
                rfl
              refine pure_ (i := 11) (N := some 40) (v := undef) (a' := ?_) #[true, true, true, true, true, true, true, true, true, true, true, true, false] rfl rfl (any_of HT_.out (by kernel_rfl)) (fun _ _ _ h => h) (Or.inr ⟨by rfl, rfl⟩) ?_ ?_
              rotate_left
              · simp only [Act.put, List.setIfInBounds_toArray, List.set_cons_zero, List.set_cons_succ, i64_w, i32_w]
                rfl
              refine pure_ (i := 12) (N := some 41) (v := ?_) (a' := ?_) #[true, true, true, true, true, true, true, true, true, true, true, true, true] rfl rfl (any_of HT_.out (by kernel_rfl)) (fun _ _ _ h => h) (Or.inl ⟨by rfl, ?_⟩) ?_ ?_
              rotate_left
              · intro w'
                go_simp
                with_reducible rfl
              rotate_left
              · simp only [Act.put, List.setIfInBounds_toArray, List.set_cons_zero, List.set_cons_succ, i64_w, i32_w]
                rfl
              refine done_ (done_of HT_.out (by kernel_rfl)) ?_
              try go_wp2
              go_meet
              case rel => exact ⟨_, (true), (by first | rfl | (simp; done) | (simp [*]; done)), H', ⟨by first | omega | exact Nat.le_refl _⟩, ⟨by (with_reducible repeat (first | apply Kd.R_alloc | apply Kd.R_drewN | apply Kd.R_drew)); exact Kd.R_mono HO106.out (fun _ hk => hk.1.2)⟩, ⟨by (with_reducible repeat (first | refine blk_drewN ?_ _ | refine blk_drew ?_ | refine blk_alloc ?_ _)); exact BK103.out⟩, ⟨by repeat (first | (with_reducible first | exact HB.out | apply below_alloc | apply pw_below_drewN | apply below_drew1 | refine below_set ?_ GE103.out) | exact HB.out)⟩⟩
            · rw [if_neg c26] at H
              have c26b0 : ((l0.length : Int) == 0) = false := beq_eq_false_iff_ne.mpr c26
              have c26b1 : ((l0.length : Int) != 0) = true := bne_iff_ne.mpr c26
              have c26b2 : ¬ (l0 = []) := fun h_ => c26 (by rw [h_]; rfl)
              (first | rw [c26b0] | (simp only [i64_w, i32_w]; rw [c26b0]) | skip)
              obtain ⟨ji28, hji28⟩ : ∃ j_ : Int, (wrap64 ((l0.length : Int) - 1)) = j_ := ⟨_, rfl⟩
              replace H : (if 0 ≤ (ji28) then (if (ji28) < (l0.length : Int) then (laws_FnAppendRange.j0 k l0 (l0.length : Int) t104 (decide (a1_0 > ((rd_T24 l0 (ji28)).f1))) a1_0 a1_1) else (none)) else (none)) = some r := by first | (rw [hji28] at H; exact H) | (simp only [hji28] at H ⊢; exact H)
              have hji28w : (IntKind.i64.wrap ((l0.length : Int) - 1)) = ji28 := (i64_w _).trans hji28
              by_cases c29 : 0 ≤ (ji28)
              · rw [if_pos c29] at H
                have c29b0 : decide (0 ≤ (ji28)) = true := decide_eq_true c29
                clear c29
                by_cases c30 : (ji28) < (l0.length : Int)
                · rw [if_pos c30] at H
                  have c30b0 : decide ((ji28) < (l0.length : Int)) = true := decide_eq_true c30
                  clear c30
                  have H' := Aside0.mk H
                  clear H
                  try go_wp2
                  have n0_ := Aside0.mk (Kd.R_drew HO106.out)
                  have n1_ := Aside0.mk (Kd.R_drew HO109.out)
                  have n2_ := Aside0.mk (blk_drew BK103.out)
                  have n3_ := Aside0.mk (below_drew1 HB.out)
                  clear HO106
                  clear HO109
                  clear BK103
                  clear HB
                  have HO106 := n0_
                  have HO109 := n1_
                  have BK103 := n2_
                  have HB := n3_
                  clear n0_ n1_ n2_ n3_
                  have p111 : 0 ≤ ((ji28) : Int) := of_decide_eq_true (by first | (with_reducible assumption) | assumption)
                  have q111 : (ji28) < (l0.length : Int) := of_decide_eq_true (by first | (with_reducible assumption) | assumption)
                  obtain ⟨ad111, e111, hx111_0, hx111_1⟩ := at_T24 HR0.out (ji28) p111 q111
                  have hw111_1 := hx111_1
                  have hw111_0 := hx111_0
                  cases e111
                  replace hx111_0 := (HB.out.cell (World.block_lt_of_cell? w _ hx111_0)).trans hx111_0
                  replace hx111_1 := (HB.out.cell (World.block_lt_of_cell? w _ hx111_1)).trans hx111_1
                  replace p111 := eq_true p111
                  replace q111 := eq_true q111
                  refine start_ (n := 13) (S := fun w' => w'.cell? ⟨gb103, 0, none⟩ = some (.int .i64 a1_0) ∧ w'.cell? ⟨gb103, 1, none⟩ = some (.int .i64 a1_1) ∧ w'.cell? (ad111.add (((ji28)).toNat * 2)) = some (.int .i64 ((rd_T24 l0 (ji28)).f0)) ∧ w'.cell? ⟨(ad111.add (((ji28)).toNat * 2)).block, (ad111.add (((ji28)).toNat * 2)).off + 1, none⟩ = some (.int .i64 ((rd_T24 l0 (ji28)).f1))) (ds := []) #[false, false, false, false, false, false, false, false, false, false, false, false, false] (by kernel_rfl) rfl rfl ⟨(blk_cell BK103.out 0).trans rfl, (blk_cell BK103.out 1).trans rfl, ((HB.out.cell (World.block_lt_of_cell? w _ hw111_0)).trans hw111_0), ((HB.out.cell (World.block_lt_of_cell? w _ hw111_1)).trans hw111_1)⟩ (fun hHeld => ?_); refine with_tabW laws_FnAppendRange.tab11 laws_FnAppendRange.bits11 (fun HT_ HW_ => ?_)
                  generalize w23.drew = w31 at HO106 HO109 BK103 HB hx111_0 hx111_1 hHeld ⊢
                  refine pure_ (i := 0) (N := some 29) (v := ?_) (a' := ?_) #[true, false, false, false, false, false, false, false, false, false, false, false, false] rfl rfl (any_of HT_.out (by kernel_rfl)) (fun _ _ _ h => h) (Or.inl ⟨by rfl, ?_⟩) ?_ ?_
                  rotate_left
                  · intro w'
                    go_simp
                    with_reducible rfl
                  rotate_left
                  · simp only [Act.put, List.setIfInBounds_toArray, List.set_cons_zero, List.set_cons_succ, i64_w, i32_w]
                    rfl
                  refine pure_ (i := 1) (N := some 30) (v := ?_) (a' := ?_) #[true, true, false, false, false, false, false, false, false, false, false, false, false] rfl rfl (any_of HT_.out (by kernel_rfl)) (fun _ _ _ h => h) (Or.inl ⟨by rfl, ?_⟩) ?_ ?_
                  rotate_left
                  · intro w'
                    go_simp
                    with_reducible rfl
                  rotate_left
                  · simp only [Act.put, List.setIfInBounds_toArray, List.set_cons_zero, List.set_cons_succ, i64_w, i32_w]
                    rfl
                  refine pure_ (i := 2) (N := some 31) (v := ?_) (a' := ?_) #[true, true, true, false, false, false, false, false, false, false, false, false, false] rfl rfl (any_of HT_.out (by kernel_rfl)) (fun _ _ _ h => h) (Or.inl ⟨by rfl, ?_⟩) ?_ ?_
                  rotate_left
                  · intro w'
                    go_simp
                    with_reducible rfl
                  rotate_left
                  · simp only [Act.put, List.setIfInBounds_toArray, List.set_cons_zero, List.set_cons_succ, i64_w, i32_w]
                    rfl
                  refine pure_ (i := 3) (N := some 32) (v := ?_) (a' := ?_) #[true, true, true, true, false, false, false, false, false, false, false, false, false] rfl rfl (any_of HT_.out (by kernel_rfl)) (fun _ _ _ h => h) (Or.inl ⟨by rfl, ?_⟩) ?_ ?_
                  rotate_left
                  · intro w'
                    go_simp
                    with_reducible rfl
                  rotate_left
                  · simp only [Act.put, List.setIfInBounds_toArray, List.set_cons_zero, List.set_cons_succ, i64_w, i32_w]
                    rfl
                  refine pure_ (i := 5) (N := some 34) (v := ?_) (a' := ?_) #[true, true, true, true, false, true, false, false, false, false, false, false, false] rfl rfl (any_of HT_.out (by kernel_rfl)) (fun _ _ _ h => h) (Or.inl ⟨by rfl, ?_⟩) ?_ ?_
                  rotate_left
                  · intro w'
                    go_simp
                    with_reducible rfl
                  rotate_left
                  · simp only [Act.put, List.setIfInBounds_toArray, List.set_cons_zero, List.set_cons_succ, i64_w, i32_w]
                    rfl
                  refine pure_ (i := 6) (N := some 35) (v := ?_) (a' := ?_) #[true, true, true, true, false, true, true, false, false, false, false, false, false] rfl rfl (any_of HT_.out (by kernel_rfl)) (fun _ _ _ h => h) (Or.inl ⟨by rfl, ?_⟩) ?_ ?_
                  rotate_left
                  · intro w'
                    go_simp
                    with_reducible rfl
                  rotate_left
                  · simp only [Act.put, List.setIfInBounds_toArray, List.set_cons_zero, List.set_cons_succ, i64_w, i32_w]
                    rfl
                  refine pure_ (i := 7) (N := some 36) (v := ?_) (a' := ?_) #[true, true, true, true, false, true, true, true, false, false, false, false, false] rfl rfl (any_of HT_.out (by kernel_rfl)) (fun _ _ _ h => h) (Or.inl ⟨by rfl, ?_⟩) ?_ ?_
                  rotate_left
                  · intro w'
                    go_simp
                    with_reducible rfl
                  rotate_left
                  · simp only [Act.put, List.setIfInBounds_toArray, List.set_cons_zero, List.set_cons_succ, i64_w, i32_w]
                    rfl
                  refine pure_ (i := 8) (N := some 37) (v := ?_) (a' := ?_) #[true, true, true, true, false, true, true, true, true, false, false, false, false] rfl rfl (any_of HT_.out (by kernel_rfl)) (fun _ _ _ h => h) (Or.inl ⟨by rfl, ?_⟩) ?_ ?_
                  rotate_left
                  · intro w'
                    go_simp
                    with_reducible rfl
                  rotate_left
                  · simp only [Act.put, List.setIfInBounds_toArray, List.set_cons_zero, List.set_cons_succ, i64_w, i32_w]
                    rfl
                  refine pure_ (i := 9) (N := some 38) (v := ?_) (a' := ?_) #[true, true, true, true, false, true, true, true, true, true, false, false, false] rfl rfl (any_of HT_.out (by kernel_rfl)) (fun _ _ _ h => h) (Or.inl ⟨by rfl, ?_⟩) ?_ ?_
                  rotate_left
                  · intro w'
                    go_simp
                    with_reducible rfl
                  rotate_left
                  · simp only [Act.put, List.setIfInBounds_toArray, List.set_cons_zero, List.set_cons_succ, i64_w, i32_w]
                    rfl
                  refine take_ (i := 4) (N := some 33) (v := ?_) (a' := ?_) #[true, true, true, true, true, true, true, true, true, true, false, false, false] rfl rfl (take_ofW HT_.out HW_.out (by kernel_rfl)) (fun _ _ _ h => h) (Or.inl ⟨by rfl, ?_⟩) hHeld ?_ ?_
                  rotate_left
                  · rintro w' ⟨s0, s1, s2, s3⟩
                    go_simp
                    with_reducible rfl
                  rotate_left
                  · simp only [Act.put, List.setIfInBounds_toArray, List.set_cons_zero, List.set_cons_succ, i64_w, i32_w]
                    rfl
                  refine take_ (i := 10) (N := some 39) (v := ?_) (a' := ?_) #[true, true, true, true, true, true, true, true, true, true, true, false, false] rfl rfl (take_ofW HT_.out HW_.out (by kernel_rfl)) (fun _ _ _ h => h) (Or.inl ⟨by rfl, ?_⟩) hHeld ?_ ?_
                  rotate_left
                  · rintro w' ⟨s0, s1, s2, s3⟩
                    go_simp
                    with_reducible rfl
                  rotate_left
                  · simp only [Act.put, List.setIfInBounds_toArray, List.set_cons_zero, List.set_cons_succ, i64_w, i32_w]
                    rfl
                  refine pure_ (i := 11) (N := some 40) (v := ?_) (a' := ?_) #[true, true, true, true, true, true, true, true, true, true, true, true, false] rfl rfl (any_of HT_.out (by kernel_rfl)) (fun _ _ _ h => h) (Or.inl ⟨by rfl, ?_⟩) ?_ ?_
                  rotate_left
                  · intro w'
                    go_simp
                    with_reducible rfl
                  rotate_left
                  · simp only [Act.put, List.setIfInBounds_toArray, List.set_cons_zero, List.set_cons_succ, i64_w, i32_w]
                    rfl
                  refine pure_ (i := 12) (N := some 41) (v := ?_) (a' := ?_) #[true, true, true, true, true, true, true, true, true, true, true, true, true] rfl rfl (any_of HT_.out (by kernel_rfl)) (fun _ _ _ h => h) (Or.inl ⟨by rfl, ?_⟩) ?_ ?_
                  rotate_left
                  · intro w'
                    go_simp
                    with_reducible rfl
                  rotate_left
                  · simp only [Act.put, List.setIfInBounds_toArray, List.set_cons_zero, List.set_cons_succ, i64_w, i32_w]
                    rfl
                  refine done_ (done_of HT_.out (by kernel_rfl)) ?_
                  try go_wp2
                  go_meet
                  case rel => exact ⟨_, (decide (a1_0 > ((rd_T24 l0 (ji28)).f1))), (by first | rfl | (simp; done) | (simp only [← hji28] <;> (first | rfl | simp)) | (simp [*]; done)), H', ⟨by first | omega | exact Nat.le_refl _⟩, ⟨by (with_reducible repeat (first | apply Kd.R_alloc | apply Kd.R_drewN | apply Kd.R_drew)); exact Kd.R_mono HO106.out (fun _ hk => hk.1.2)⟩, ⟨by (with_reducible repeat (first | refine blk_drewN ?_ _ | refine blk_drew ?_ | refine blk_alloc ?_ _)); exact BK103.out⟩, ⟨by repeat (first | (with_reducible first | exact HB.out | apply below_alloc | apply pw_below_drewN | apply below_drew1 | refine below_set ?_ GE103.out) | exact HB.out)⟩⟩
                · rw [if_neg c30] at H
                  exact absurd H (by simp)
              · rw [if_neg c29] at H
                exact absurd H (by simp)
          case rest =>
            clear HC19
            try clear c1
            try clear p1
            try clear q1
            try clear hx1
            try clear c2
            try clear p2
            try clear c3
            try clear c3b0
            try clear c3b1
            try clear c5
            try clear c5b0
            try clear c5b1
            try clear p6
            try clear c9
            try clear c9b0
            try clear c9b1
            try clear c10
            try clear c10b0
            try clear c11
            try clear p11
            try clear q11
            try clear hx11
            try clear c12
            try clear c26
            try clear c26b0
            try clear c26b1
            try clear c26b2
            try clear c29
            try clear c29b0
            try clear c30
            try clear c30b0
            try clear hcz13_0
            try clear hcz13_1
            try clear hcz17_0
            try clear hcz17_1
            try clear hcz21_0
            try clear hcz21_1
            try clear hcz25_0
            try clear hcz25_1
            try clear hfz13_0
            try clear hfz13_1
            try clear hfz17_0
            try clear hfz17_1
            try clear hfz21_0
            try clear hfz21_1
            try clear hfz25_0
            try clear hfz25_1
            try clear hx111_0
            try clear hx111_1
            try clear p111
            try clear q111
            obtain ⟨kq, x41_18, rfl, HA, HJ18, HO_6, BK103, HB⟩ := hcut
            cases kq with
            | zero => exact absurd HA.out (by simp [laws_FnAppendRange.j0])
            | succ kj18 =>
              have H := HA.out
              clear HA
              simp only [laws_FnAppendRange.j0] at H
              by_cases c32 : x41_18 = true
              · subst c32
                have H1 : ((some (([] : List (S24)) : List (S24))).bind fun y112 => (if y112.length + l0.length < 8796093022208 then ((some (y112 ++ l0 : List (S24))).bind fun y115 => ((some (([(⟨a1_0, a1_1⟩ : S24)] : List (S24)) : List (S24))).bind fun y118 => (if y115.length + y118.length < 8796093022208 then ((laws_sameRanges.f kj18 t104 (y115 ++ y118)).bind fun t124 => (some t124)) else (none)))) else (none))) = some r := by rw [if_pos rfl] at H; exact H
                clear H
                have H := H1
                clear H1
                obtain ⟨y112, hy112⟩ : ∃ y_ : List (S24), y_ = (([] : List (S24))) := ⟨_, rfl⟩
                replace H : (if y112.length + l0.length < 8796093022208 then ((some (y112 ++ l0 : List (S24))).bind fun y115 => ((some (([(⟨a1_0, a1_1⟩ : S24)] : List (S24)) : List (S24))).bind fun y118 => (if y115.length + y118.length < 8796093022208 then ((laws_sameRanges.f kj18 t104 (y115 ++ y118)).bind fun t124 => (some t124)) else (none)))) else (none)) = some r := by first | (rw [hy112]; with_reducible exact H) | (have H2_ := (Option.bind_some _ _).symm.trans H; rw [hy112]; with_reducible exact H2_) | (have H2_ := (Option.bind_some _ _).symm.trans H; with_reducible exact H2_) | with_reducible exact H | (rw [hy112]; exact H) | exact H
                have Ny112 := Aside0.mk hy112
                clear hy112
                by_cases c33 : y112.length + l0.length < 8796093022208
                · rw [if_pos c33] at H
                  have LMc33 := Aside0.mk c33
                  clear c33
                  obtain ⟨y115, hy115⟩ : ∃ y_ : List (S24), y_ = (y112 ++ l0) := ⟨_, rfl⟩
                  replace H : ((some (([(⟨a1_0, a1_1⟩ : S24)] : List (S24)) : List (S24))).bind fun y118 => (if y115.length + y118.length < 8796093022208 then ((laws_sameRanges.f kj18 t104 (y115 ++ y118)).bind fun t124 => (some t124)) else (none))) = some r := by first | (rw [hy115]; with_reducible exact H) | (have H2_ := (Option.bind_some _ _).symm.trans H; rw [hy115]; with_reducible exact H2_) | (have H2_ := (Option.bind_some _ _).symm.trans H; with_reducible exact H2_) | with_reducible exact H | (rw [hy115]; exact H) | exact H
                  have Ny115 := Aside0.mk hy115
                  clear hy115
                  obtain ⟨y118, hy118⟩ : ∃ y_ : List (S24), y_ = (([(⟨a1_0, a1_1⟩ : S24)] : List (S24))) := ⟨_, rfl⟩
                  replace H : (if y115.length + y118.length < 8796093022208 then ((laws_sameRanges.f kj18 t104 (y115 ++ y118)).bind fun t124 => (some t124)) else (none)) = some r := by first | (rw [hy118]; with_reducible exact H) | (have H2_ := (Option.bind_some _ _).symm.trans H; rw [hy118]; with_reducible exact H2_) | (have H2_ := (Option.bind_some _ _).symm.trans H; with_reducible exact H2_) | with_reducible exact H | (rw [hy118]; exact H) | exact H
                  have Ny118 := Aside0.mk hy118
                  clear hy118
                  by_cases c34 : y115.length + y118.length < 8796093022208
                  · rw [if_pos c34] at H
                    have LMc34 := Aside0.mk c34
                    clear c34
                    obtain ⟨y121, hy121⟩ : ∃ y_ : List (S24), y_ = (y115 ++ y118) := ⟨_, rfl⟩
                    replace H : ((laws_sameRanges.f kj18 t104 y121).bind fun t124 => (some t124)) = some r := by first | (rw [hy121]; with_reducible exact H) | (have H2_ := (Option.bind_some _ _).symm.trans H; rw [hy121]; with_reducible exact H2_) | (have H2_ := (Option.bind_some _ _).symm.trans H; with_reducible exact H2_) | with_reducible exact H | (rw [hy121]; exact H) | exact H
                    have Ny121 := Aside0.mk hy121
                    clear hy121
                    replace H := Option.bind_eq_some_iff.mp H
                    obtain ⟨t124, A350, H⟩ := H
                    replace H : (some t124) = some r := H
                    have A35 := Aside0.mk A350
                    clear A350
                    obtain rfl := Option.some.inj H
                    obtain ⟨Ao36, co36, eo36⟩ := Kd.R_slice HO_6.out
                    subst eo36
                    try go_wp2
                    have n0_ := Aside0.mk (Kd.R_drew HO_6.out)
                    have n1_ := Aside0.mk (blk_drew BK103.out)
                    have n2_ := Aside0.mk (below_drew1 HB.out)
                    clear HO_6
                    clear BK103
                    clear HB
                    have HO_6 := n0_
                    have BK103 := n1_
                    have HB := n2_
                    clear n0_ n1_ n2_
                    refine start_ (n := 9) (S := fun w' => w'.cell? ⟨gb103, 0, none⟩ = some (.int .i64 a1_0) ∧ w'.cell? ⟨gb103, 1, none⟩ = some (.int .i64 a1_1)) (ds := []) #[false, false, false, false, false, false, false, false, false] (by kernel_rfl) rfl rfl ⟨(blk_cell BK103.out 0).trans rfl, (blk_cell BK103.out 1).trans rfl⟩ (fun hHeld => ?_); refine with_tabW laws_FnAppendRange.tab12 laws_FnAppendRange.bits12 (fun HT_ HW_ => ?_)
                    generalize wc.drew = w37 at HO_6 BK103 HB hHeld ⊢
                    refine pure_ (i := 0) (N := some 42) (v := ?_) (a' := ?_) #[true, false, false, false, false, false, false, false, false] rfl rfl (any_of HT_.out (by kernel_rfl)) (fun _ _ _ h => h) (Or.inl ⟨by rfl, ?_⟩) ?_ ?_
                    rotate_left
                    · intro w'
                      go_simp
                      with_reducible rfl
                    rotate_left
                    · simp only [Act.put, List.setIfInBounds_toArray, List.set_cons_zero, List.set_cons_succ, i64_w, i32_w]
                      rfl
                    refine pure_ (i := 2) (N := some 44) (v := ?_) (a' := ?_) #[true, false, true, false, false, false, false, false, false] rfl rfl (any_of HT_.out (by kernel_rfl)) (fun _ _ _ h => h) (Or.inl ⟨by rfl, ?_⟩) ?_ ?_
                    rotate_left
                    · intro w'
                      go_simp
                      with_reducible rfl
                    rotate_left
                    · simp only [Act.put, List.setIfInBounds_toArray, List.set_cons_zero, List.set_cons_succ, i64_w, i32_w]
                      rfl
                    refine take_ (i := 4) (N := some 46) (v := ?_) (a' := ?_) #[true, false, true, false, true, false, false, false, false] rfl rfl (take_ofW HT_.out HW_.out (by kernel_rfl)) (fun _ _ _ h => h) (Or.inl ⟨by rfl, ?_⟩) hHeld ?_ ?_
                    rotate_left
                    · rintro w' ⟨s0, s1⟩
                      go_simp
                      with_reducible rfl
                    rotate_left
                    · simp only [Act.put, List.setIfInBounds_toArray, List.set_cons_zero, List.set_cons_succ, i64_w, i32_w]
                      rfl
                    refine join_ (σ := Value × Value × Value) 3 #[true, true, true, true, true, true, false, false, false] (fun s_ => [(43, s_.1), (45, s_.2.1), (47, s_.2.2)]) (fun s_ w' => (w'.cell? ⟨gb103, 0, none⟩ = some (.int .i64 a1_0) ∧ w'.cell? ⟨gb103, 1, none⟩ = some (.int .i64 a1_1)) ∧ (Kd.R k24 24 w' w.heap.size (fun k_ => some k_ ≠ (s_.2.2 : Value).ownBlock ∧ some k_ ≠ (.slice Ao36 t104.length co36 : Value).ownBlock ∧ k_ ≠ gb103) s_.2.1 y115) ∧ (Kd.R k24 24 w' w.heap.size (fun k_ => some k_ ≠ (s_.2.1 : Value).ownBlock ∧ some k_ ≠ (.slice Ao36 t104.length co36 : Value).ownBlock ∧ k_ ≠ gb103) s_.2.2 y118) ∧ (Kd.R k24 24 w' w.heap.size (fun k_ => some k_ ≠ (s_.2.1 : Value).ownBlock ∧ some k_ ≠ (s_.2.2 : Value).ownBlock ∧ k_ ≠ gb103) (.slice Ao36 t104.length co36) t104) ∧ (w'.heap[gb103]? = some (.cells #[.int .i64 a1_0, .int .i64 a1_1] 24 (0, 0))) ∧ (Below w.heap.size w w')) ?_ ?_
                    rotate_left
                    · intro hCont
                      refine two_ (i := 1) (j := 5) (Ni := some 43) (Nj := some 47) #[true, true, true, false, true, false, false, false, false] #[true, false, true, false, true, true, false, false, false] rfl rfl rfl rfl (two_of HT_.out (by kernel_rfl)) (by decide) (by decide) (fun K hK => ?_) (fun K hK => ?_)
                      · skip
                        refine Kd.R_lit_step k24 _ 24 ?hg (N := 43) ?hd (xs := ([] : List (S24))) (inner := []) (ok := fun _ => True) (okp := fun _ => True) ?hr ?hp (fun _ hk => hk) trivial (Below.refl _ _) (Nat.le_refl _) (by simp) ?_; (case hd => rfl); (case hg => rfl); (case hr => first | (go_simp; done) | (go_simp; rfl)); (case hp => exact (Reps.none _ _))
                        intro v113 w38 ho39 hb hg_ hnew_
                        clear hg_ hnew_
                        (first | rw [← Ny112.out] at ho39 | (simp only [Int.reduceToNat] at ho39; rw [← Ny112.out] at ho39))
                        have n0_ := Aside0.mk (Kd.R_elder' (by (with_reducible repeat (first | apply Kd.R_alloc | apply Kd.R_drewN | apply Kd.R_drew)); exact HO_6.out) (Kd.R_base ho39) hb)
                        have n1_ := Aside0.mk (Kd.R_lower (Kd.R_newB (Kd.R_new' ho39 (Kd.R_lt (by (with_reducible repeat (first | apply Kd.R_alloc | apply Kd.R_drewN | apply Kd.R_drew)); exact HO_6.out))) (g := gb103) (o := .cells #[.int .i64 a1_0, .int .i64 a1_1] 24 (0, 0)) (by (with_reducible repeat (first | refine blk_drewN ?_ _ | refine blk_drew ?_ | refine blk_alloc ?_ _)); exact BK103.out)) (below_size (by repeat (first | (with_reducible first | exact HB.out | apply below_alloc | apply pw_below_drewN | apply below_drew1 | refine below_set ?_ GE103.out) | exact HB.out))))
                        have n2_ := Aside0.mk (blk_below (g := gb103) (o := .cells #[.int .i64 a1_0, .int .i64 a1_1] 24 (0, 0)) (by (with_reducible repeat (first | refine blk_drewN ?_ _ | refine blk_drew ?_ | refine blk_alloc ?_ _)); exact BK103.out) hb)
                        have n3_ := Aside0.mk (below_step (by repeat (first | (with_reducible first | exact HB.out | apply below_alloc | apply pw_below_drewN | apply below_drew1 | refine below_set ?_ GE103.out) | exact HB.out)) hb)
                        clear HO_6
                        clear BK103
                        clear HB
                        have HO_6 := n0_
                        have HO114 := n1_
                        have BK103 := n2_
                        have HB := n3_
                        clear n0_ n1_ n2_ n3_
                        clear hb ho39
                        refine hK.out _ _ ⟨(blk_cell BK103.out 0).trans rfl, (blk_cell BK103.out 1).trans rfl⟩ (fun hHeld => ?_)
                        clear hK K
                        refine norm_ (a' := ?_) ?_ ?_
                        rotate_left
                        · show Act.put _ (some 43) _ = _
                          simp only [Act.put, List.setIfInBounds_toArray, List.set_cons_zero, List.set_cons_succ, i64_w, i32_w]
                          rfl
                        refine two_ (i := 3) (j := 5) (Ni := some 45) (Nj := some 47) #[true, true, true, true, true, false, false, false, false] #[true, true, true, false, true, true, false, false, false] rfl rfl rfl rfl (two_of HT_.out (by kernel_rfl)) (by decide) (by decide) (fun K hK => ?_) (fun K hK => ?_)
                        · skip
                          refine Kd.R_append_rows_step k24 (w0 := w) w.heap.size (by rfl) (.tmp 43) (.tmp 44) 22 24 (.agg #[(.int .i64 0), (.int .i64 0)]) 16 rfl Try.underlying22 info24 rfl (by decide) (by omega) v113 y112 l0 _ _ _ (fun k_ => some k_ ≠ (.slice Ao36 t104.length co36 : Value).ownBlock ∧ k_ ≠ gb103) (fun _ => False) rfl rfl ?aO ?aR (fun _ _ h => h) (fun _ h => h.elim) ?aF ?aB ?aS ?aL ?_
                          (case aR => repeat (first | exact (Kd.C_below HR0.out HB.out) | (with_reducible refine Kd.C_alloc ?_ _) | (with_reducible refine Kd.C_drewN ?_ _) | (with_reducible refine Kd.C_drew ?_)))
                          (case aB => exact (by repeat (first | (with_reducible first | exact HB.out | apply below_alloc | apply pw_below_drewN | apply below_drew1 | refine below_set ?_ GE103.out) | exact HB.out)))
                          (case aF => exact (fun k_ hk => ⟨Kd.fresh' (Kd.R_lt (by (with_reducible repeat (first | apply Kd.R_alloc | apply Kd.R_drewN | apply Kd.R_drew)); exact HO_6.out)) k_ hk, Kd.freshB (g := gb103) (o := .cells #[.int .i64 a1_0, .int .i64 a1_1] 24 (0, 0)) (by (with_reducible repeat (first | refine blk_drewN ?_ _ | refine blk_drew ?_ | refine blk_alloc ?_ _)); exact BK103.out) k_ hk⟩))
                          (case aO => exact (by (with_reducible repeat (first | apply Kd.R_alloc | apply Kd.R_drewN | apply Kd.R_drew)); exact Kd.R_mono HO114.out (fun _ hk => ⟨hk.1.2, hk.2⟩)))
                          (case aS => exact (below_size (by repeat (first | (with_reducible first | exact HB.out | apply below_alloc | apply pw_below_drewN | apply below_drew1 | refine below_set ?_ GE103.out) | exact HB.out))))
                          (case aL => have := LMc33.out; omega)
                          intro v116 w40 ho hb hg hat
                          rw [← Ny115.out] at ho
                          have n0_ := Aside0.mk (Kd.R_after (ok := (fun k_ => k_ ≠ gb103)) (by (with_reducible repeat (first | apply Kd.R_alloc | apply Kd.R_drewN | apply Kd.R_drew)); exact HO_6.out) hg hat)
                          have n1_ := Aside0.mk (blk_grown (g := gb103) (o := .cells #[.int .i64 a1_0, .int .i64 a1_1] 24 (0, 0)) (by (with_reducible repeat (first | refine blk_drewN ?_ _ | refine blk_drew ?_ | refine blk_alloc ?_ _)); exact BK103.out) hg (Kd.R_away HO114.out (fun _ hk => hk.2)))
                          have n2_ := Aside0.mk (hb)
                          have n3_ := Aside0.mk (ho)
                          clear HO_6
                          clear BK103
                          clear HB
                          clear HO114
                          have HO_6 := n0_
                          have BK103 := n1_
                          have HB := n2_
                          have HO117 := n3_
                          clear n0_ n1_ n2_ n3_
                          clear ho hb hg hat
                          refine hK.out _ _ ⟨(blk_cell BK103.out 0).trans rfl, (blk_cell BK103.out 1).trans rfl⟩ (fun hHeld => ?_)
                          clear hK K
                          refine norm_ (a' := ?_) ?_ ?_
                          rotate_left
                          · show Act.put _ (some 45) _ = _
                            simp only [Act.put, List.setIfInBounds_toArray, List.set_cons_zero, List.set_cons_succ, i64_w, i32_w]
                            rfl
                          refine one_ (i := 5) (N := some 47) #[true, true, true, true, true, true, false, false, false] rfl rfl (one_of HT_.out (by kernel_rfl)) (by decide) (fun K hK => ?_)
                          refine Kd.R_lit_step k24 _ 24 ?hg (N := 47) ?hd (xs := ([(⟨a1_0, a1_1⟩ : S24)] : List (S24))) (inner := [.int .i64 a1_0, .int .i64 a1_1]) (ok := fun _ => True) (okp := fun _ => True) ?hr ?hp (fun _ hk => hk) trivial (Below.refl _ _) (Nat.le_refl _) (by simp) ?_; (case hd => rfl); (case hg => rfl); (case hr => first | (go_simp; done) | (go_simp; rfl)); (case hp => exact (Reps.c2 (show Kd.M k24 _ _ _ (⟨a1_0, a1_1⟩ : S24) [.int .i64 a1_0, .int .i64 a1_1] from (k24_mkM _ _ _ (⟨a1_0, a1_1⟩ : S24) )) (Reps.none _ _)))
                          intro v119 w41 ho42 hb hg_ hnew_
                          clear hg_ hnew_
                          (first | rw [← Ny118.out] at ho42 | (simp only [Int.reduceToNat] at ho42; rw [← Ny118.out] at ho42))
                          have n0_ := Aside0.mk (Kd.R_elder' (by (with_reducible repeat (first | apply Kd.R_alloc | apply Kd.R_drewN | apply Kd.R_drew)); exact HO_6.out) (Kd.R_base ho42) hb)
                          have n1_ := Aside0.mk (Kd.R_elder' (by (with_reducible repeat (first | apply Kd.R_alloc | apply Kd.R_drewN | apply Kd.R_drew)); exact HO117.out) (Kd.R_base ho42) hb)
                          have n2_ := Aside0.mk (Kd.R_lower (Kd.R_newB (Kd.R_new' (Kd.R_new' ho42 (Kd.R_lt (by (with_reducible repeat (first | apply Kd.R_alloc | apply Kd.R_drewN | apply Kd.R_drew)); exact HO_6.out))) (Kd.R_lt (by (with_reducible repeat (first | apply Kd.R_alloc | apply Kd.R_drewN | apply Kd.R_drew)); exact HO117.out))) (g := gb103) (o := .cells #[.int .i64 a1_0, .int .i64 a1_1] 24 (0, 0)) (by (with_reducible repeat (first | refine blk_drewN ?_ _ | refine blk_drew ?_ | refine blk_alloc ?_ _)); exact BK103.out)) (below_size (by repeat (first | (with_reducible first | exact HB.out | apply below_alloc | apply pw_below_drewN | apply below_drew1 | refine below_set ?_ GE103.out) | exact HB.out))))
                          have n3_ := Aside0.mk (blk_below (g := gb103) (o := .cells #[.int .i64 a1_0, .int .i64 a1_1] 24 (0, 0)) (by (with_reducible repeat (first | refine blk_drewN ?_ _ | refine blk_drew ?_ | refine blk_alloc ?_ _)); exact BK103.out) hb)
                          have n4_ := Aside0.mk (below_step (by repeat (first | (with_reducible first | exact HB.out | apply below_alloc | apply pw_below_drewN | apply below_drew1 | refine below_set ?_ GE103.out) | exact HB.out)) hb)
                          clear HO_6
                          clear HO117
                          clear BK103
                          clear HB
                          have HO_6 := n0_
                          have HO117 := n1_
                          have HO120 := n2_
                          have BK103 := n3_
                          have HB := n4_
                          clear n0_ n1_ n2_ n3_ n4_
                          clear hb ho42
                          refine hK.out _ _ ⟨(blk_cell BK103.out 0).trans rfl, (blk_cell BK103.out 1).trans rfl⟩ (fun hHeld => ?_)
                          clear hK K
                          refine norm_ (a' := ?_) ?_ ?_
                          rotate_left
                          · show Act.put _ (some 47) _ = _
                            simp only [Act.put, List.setIfInBounds_toArray, List.set_cons_zero, List.set_cons_succ, i64_w, i32_w]
                            rfl
                          exact norm_ (by simp only [putAll, Act.put, List.setIfInBounds_toArray, List.set_cons_zero, List.set_cons_succ]) (hCont (v113, v116, v119) _ ⟨hHeld, (by (with_reducible repeat (first | apply Kd.R_alloc | apply Kd.R_drewN | apply Kd.R_drew)); exact Kd.R_mono HO117.out (fun _ hk => ⟨hk.2, ⟨hk.1.1, hk.1.2⟩⟩)), (by (with_reducible repeat (first | apply Kd.R_alloc | apply Kd.R_drewN | apply Kd.R_drew)); exact Kd.R_mono HO120.out (fun _ hk => ⟨hk.1.2, ⟨hk.1.1.2, hk.2⟩⟩)), (by (with_reducible repeat (first | apply Kd.R_alloc | apply Kd.R_drewN | apply Kd.R_drew)); exact Kd.R_mono HO_6.out (fun _ hk => ⟨hk.1.2, ⟨hk.2, hk.1.1⟩⟩)), (by (with_reducible repeat (first | refine blk_drewN ?_ _ | refine blk_drew ?_ | refine blk_alloc ?_ _)); exact BK103.out), (by repeat (first | (with_reducible first | exact HB.out | apply below_alloc | apply pw_below_drewN | apply below_drew1 | refine below_set ?_ GE103.out) | exact HB.out))⟩)
                        · skip
                          refine Kd.R_lit_step k24 _ 24 ?hg (N := 47) ?hd (xs := ([(⟨a1_0, a1_1⟩ : S24)] : List (S24))) (inner := [.int .i64 a1_0, .int .i64 a1_1]) (ok := fun _ => True) (okp := fun _ => True) ?hr ?hp (fun _ hk => hk) trivial (Below.refl _ _) (Nat.le_refl _) (by simp) ?_; (case hd => rfl); (case hg => rfl); (case hr => first | (go_simp; done) | (go_simp; rfl)); (case hp => exact (Reps.c2 (show Kd.M k24 _ _ _ (⟨a1_0, a1_1⟩ : S24) [.int .i64 a1_0, .int .i64 a1_1] from (k24_mkM _ _ _ (⟨a1_0, a1_1⟩ : S24) )) (Reps.none _ _)))
                          intro v119 w40 ho41 hb hg_ hnew_
                          clear hg_ hnew_
                          (first | rw [← Ny118.out] at ho41 | (simp only [Int.reduceToNat] at ho41; rw [← Ny118.out] at ho41))
                          have n0_ := Aside0.mk (Kd.R_elder' (by (with_reducible repeat (first | apply Kd.R_alloc | apply Kd.R_drewN | apply Kd.R_drew)); exact HO_6.out) (Kd.R_base ho41) hb)
                          have n1_ := Aside0.mk (Kd.R_elder' (by (with_reducible repeat (first | apply Kd.R_alloc | apply Kd.R_drewN | apply Kd.R_drew)); exact HO114.out) (Kd.R_base ho41) hb)
                          have n2_ := Aside0.mk (Kd.R_lower (Kd.R_newB (Kd.R_new' (Kd.R_new' ho41 (Kd.R_lt (by (with_reducible repeat (first | apply Kd.R_alloc | apply Kd.R_drewN | apply Kd.R_drew)); exact HO_6.out))) (Kd.R_lt (by (with_reducible repeat (first | apply Kd.R_alloc | apply Kd.R_drewN | apply Kd.R_drew)); exact HO114.out))) (g := gb103) (o := .cells #[.int .i64 a1_0, .int .i64 a1_1] 24 (0, 0)) (by (with_reducible repeat (first | refine blk_drewN ?_ _ | refine blk_drew ?_ | refine blk_alloc ?_ _)); exact BK103.out)) (below_size (by repeat (first | (with_reducible first | exact HB.out | apply below_alloc | apply pw_below_drewN | apply below_drew1 | refine below_set ?_ GE103.out) | exact HB.out))))
                          have n3_ := Aside0.mk (blk_below (g := gb103) (o := .cells #[.int .i64 a1_0, .int .i64 a1_1] 24 (0, 0)) (by (with_reducible repeat (first | refine blk_drewN ?_ _ | refine blk_drew ?_ | refine blk_alloc ?_ _)); exact BK103.out) hb)
                          have n4_ := Aside0.mk (below_step (by repeat (first | (with_reducible first | exact HB.out | apply below_alloc | apply pw_below_drewN | apply below_drew1 | refine below_set ?_ GE103.out) | exact HB.out)) hb)
                          clear HO_6
                          clear HO114
                          clear BK103
                          clear HB
                          have HO_6 := n0_
                          have HO114 := n1_
                          have HO120 := n2_
                          have BK103 := n3_
                          have HB := n4_
                          clear n0_ n1_ n2_ n3_ n4_
                          clear hb ho41
                          refine hK.out _ _ ⟨(blk_cell BK103.out 0).trans rfl, (blk_cell BK103.out 1).trans rfl⟩ (fun hHeld => ?_)
                          clear hK K
                          refine norm_ (a' := ?_) ?_ ?_
                          rotate_left
                          · show Act.put _ (some 47) _ = _
                            simp only [Act.put, List.setIfInBounds_toArray, List.set_cons_zero, List.set_cons_succ, i64_w, i32_w]
                            rfl
                          refine one_ (i := 3) (N := some 45) #[true, true, true, true, true, true, false, false, false] rfl rfl (one_of HT_.out (by kernel_rfl)) (by decide) (fun K hK => ?_)
                          refine Kd.R_append_rows_step k24 (w0 := w) w.heap.size (by rfl) (.tmp 43) (.tmp 44) 22 24 (.agg #[(.int .i64 0), (.int .i64 0)]) 16 rfl Try.underlying22 info24 rfl (by decide) (by omega) v113 y112 l0 _ _ _ (fun k_ => some k_ ≠ (.slice Ao36 t104.length co36 : Value).ownBlock ∧ some k_ ≠ (v119 : Value).ownBlock ∧ k_ ≠ gb103) (fun _ => False) rfl rfl ?aO ?aR (fun _ _ h => h) (fun _ h => h.elim) ?aF ?aB ?aS ?aL ?_
                          (case aR => repeat (first | exact (Kd.C_below HR0.out HB.out) | (with_reducible refine Kd.C_alloc ?_ _) | (with_reducible refine Kd.C_drewN ?_ _) | (with_reducible refine Kd.C_drew ?_)))
                          (case aB => exact (by repeat (first | (with_reducible first | exact HB.out | apply below_alloc | apply pw_below_drewN | apply below_drew1 | refine below_set ?_ GE103.out) | exact HB.out)))
                          (case aF => exact (fun k_ hk => ⟨Kd.fresh' (Kd.R_lt (by (with_reducible repeat (first | apply Kd.R_alloc | apply Kd.R_drewN | apply Kd.R_drew)); exact HO_6.out)) k_ hk, Kd.fresh' (Kd.R_lt (by (with_reducible repeat (first | apply Kd.R_alloc | apply Kd.R_drewN | apply Kd.R_drew)); exact HO120.out)) k_ hk, Kd.freshB (g := gb103) (o := .cells #[.int .i64 a1_0, .int .i64 a1_1] 24 (0, 0)) (by (with_reducible repeat (first | refine blk_drewN ?_ _ | refine blk_drew ?_ | refine blk_alloc ?_ _)); exact BK103.out) k_ hk⟩))
                          (case aO => exact (by (with_reducible repeat (first | apply Kd.R_alloc | apply Kd.R_drewN | apply Kd.R_drew)); exact Kd.R_mono HO114.out (fun _ hk => ⟨hk.1.1.2, ⟨hk.2, hk.1.2⟩⟩)))
                          (case aS => exact (below_size (by repeat (first | (with_reducible first | exact HB.out | apply below_alloc | apply pw_below_drewN | apply below_drew1 | refine below_set ?_ GE103.out) | exact HB.out))))
                          (case aL => have := LMc33.out; omega)
                          intro v116 w42 ho hb hg hat
                          rw [← Ny115.out] at ho
                          have n0_ := Aside0.mk (Kd.R_after (ok := (fun k_ => some k_ ≠ (v119 : Value).ownBlock ∧ k_ ≠ gb103)) (by (with_reducible repeat (first | apply Kd.R_alloc | apply Kd.R_drewN | apply Kd.R_drew)); exact Kd.R_mono HO_6.out (fun _ hk => ⟨⟨hk.2, hk.1.1⟩, hk.1.2⟩)) hg hat)
                          have n1_ := Aside0.mk (blk_grown (g := gb103) (o := .cells #[.int .i64 a1_0, .int .i64 a1_1] 24 (0, 0)) (by (with_reducible repeat (first | refine blk_drewN ?_ _ | refine blk_drew ?_ | refine blk_alloc ?_ _)); exact BK103.out) hg (Kd.R_away HO114.out (fun _ hk => hk.1.2)))
                          have n2_ := Aside0.mk (Kd.R_after (ok := (fun k_ => some k_ ≠ (.slice Ao36 t104.length co36 : Value).ownBlock ∧ k_ ≠ gb103)) (by (with_reducible repeat (first | apply Kd.R_alloc | apply Kd.R_drewN | apply Kd.R_drew)); exact Kd.R_mono HO120.out (fun _ hk => ⟨⟨hk.1.1.2, hk.2⟩, hk.1.2⟩)) hg hat)
                          have n3_ := Aside0.mk (hb)
                          have n4_ := Aside0.mk (ho)
                          clear HO_6
                          clear BK103
                          clear HO120
                          clear HB
                          clear HO114
                          have HO_6 := n0_
                          have BK103 := n1_
                          have HO120 := n2_
                          have HB := n3_
                          have HO117 := n4_
                          clear n0_ n1_ n2_ n3_ n4_
                          clear ho hb hg hat
                          refine hK.out _ _ ⟨(blk_cell BK103.out 0).trans rfl, (blk_cell BK103.out 1).trans rfl⟩ (fun hHeld => ?_)
                          clear hK K
                          refine norm_ (a' := ?_) ?_ ?_
                          rotate_left
                          · show Act.put _ (some 45) _ = _
                            simp only [Act.put, List.setIfInBounds_toArray, List.set_cons_zero, List.set_cons_succ, i64_w, i32_w]
                            rfl
                          exact norm_ (by simp only [putAll, Act.put, List.setIfInBounds_toArray, List.set_cons_zero, List.set_cons_succ]) (hCont (v113, v116, v119) _ ⟨hHeld, (by (with_reducible repeat (first | apply Kd.R_alloc | apply Kd.R_drewN | apply Kd.R_drew)); exact Kd.R_mono HO117.out (fun _ hk => ⟨hk.2.1, ⟨hk.1, hk.2.2⟩⟩)), (by (with_reducible repeat (first | apply Kd.R_alloc | apply Kd.R_drewN | apply Kd.R_drew)); exact Kd.R_mono HO120.out (fun _ hk => ⟨hk.2, ⟨hk.1.1, hk.1.2⟩⟩)), (by (with_reducible repeat (first | apply Kd.R_alloc | apply Kd.R_drewN | apply Kd.R_drew)); exact Kd.R_mono HO_6.out (fun _ hk => ⟨hk.2, ⟨hk.1.1, hk.1.2⟩⟩)), (by (with_reducible repeat (first | refine blk_drewN ?_ _ | refine blk_drew ?_ | refine blk_alloc ?_ _)); exact BK103.out), (by repeat (first | (with_reducible first | exact HB.out | apply below_alloc | apply pw_below_drewN | apply below_drew1 | refine below_set ?_ GE103.out) | exact HB.out))⟩)
                      · skip
                        refine Kd.R_lit_step k24 _ 24 ?hg (N := 47) ?hd (xs := ([(⟨a1_0, a1_1⟩ : S24)] : List (S24))) (inner := [.int .i64 a1_0, .int .i64 a1_1]) (ok := fun _ => True) (okp := fun _ => True) ?hr ?hp (fun _ hk => hk) trivial (Below.refl _ _) (Nat.le_refl _) (by simp) ?_; (case hd => rfl); (case hg => rfl); (case hr => first | (go_simp; done) | (go_simp; rfl)); (case hp => exact (Reps.c2 (show Kd.M k24 _ _ _ (⟨a1_0, a1_1⟩ : S24) [.int .i64 a1_0, .int .i64 a1_1] from (k24_mkM _ _ _ (⟨a1_0, a1_1⟩ : S24) )) (Reps.none _ _)))
                        intro v119 w38 ho39 hb hg_ hnew_
                        clear hg_ hnew_
                        (first | rw [← Ny118.out] at ho39 | (simp only [Int.reduceToNat] at ho39; rw [← Ny118.out] at ho39))
                        have n0_ := Aside0.mk (Kd.R_elder' (by (with_reducible repeat (first | apply Kd.R_alloc | apply Kd.R_drewN | apply Kd.R_drew)); exact HO_6.out) (Kd.R_base ho39) hb)
                        have n1_ := Aside0.mk (Kd.R_lower (Kd.R_newB (Kd.R_new' ho39 (Kd.R_lt (by (with_reducible repeat (first | apply Kd.R_alloc | apply Kd.R_drewN | apply Kd.R_drew)); exact HO_6.out))) (g := gb103) (o := .cells #[.int .i64 a1_0, .int .i64 a1_1] 24 (0, 0)) (by (with_reducible repeat (first | refine blk_drewN ?_ _ | refine blk_drew ?_ | refine blk_alloc ?_ _)); exact BK103.out)) (below_size (by repeat (first | (with_reducible first | exact HB.out | apply below_alloc | apply pw_below_drewN | apply below_drew1 | refine below_set ?_ GE103.out) | exact HB.out))))
                        have n2_ := Aside0.mk (blk_below (g := gb103) (o := .cells #[.int .i64 a1_0, .int .i64 a1_1] 24 (0, 0)) (by (with_reducible repeat (first | refine blk_drewN ?_ _ | refine blk_drew ?_ | refine blk_alloc ?_ _)); exact BK103.out) hb)
                        have n3_ := Aside0.mk (below_step (by repeat (first | (with_reducible first | exact HB.out | apply below_alloc | apply pw_below_drewN | apply below_drew1 | refine below_set ?_ GE103.out) | exact HB.out)) hb)
                        clear HO_6
                        clear BK103
                        clear HB
                        have HO_6 := n0_
                        have HO120 := n1_
                        have BK103 := n2_
                        have HB := n3_
                        clear n0_ n1_ n2_ n3_
                        clear hb ho39
                        refine hK.out _ _ ⟨(blk_cell BK103.out 0).trans rfl, (blk_cell BK103.out 1).trans rfl⟩ (fun hHeld => ?_)
                        clear hK K
                        refine norm_ (a' := ?_) ?_ ?_
                        rotate_left
                        · show Act.put _ (some 47) _ = _
                          simp only [Act.put, List.setIfInBounds_toArray, List.set_cons_zero, List.set_cons_succ, i64_w, i32_w]
                          rfl
                        refine one_ (i := 1) (N := some 43) #[true, true, true, false, true, true, false, false, false] rfl rfl (one_of HT_.out (by kernel_rfl)) (by decide) (fun K hK => ?_)
                        refine Kd.R_lit_step k24 _ 24 ?hg (N := 43) ?hd (xs := ([] : List (S24))) (inner := []) (ok := fun _ => True) (okp := fun _ => True) ?hr ?hp (fun _ hk => hk) trivial (Below.refl _ _) (Nat.le_refl _) (by simp) ?_; (case hd => rfl); (case hg => rfl); (case hr => first | (go_simp; done) | (go_simp; rfl)); (case hp => exact (Reps.none _ _))
                        intro v113 w40 ho41 hb hg_ hnew_
                        clear hg_ hnew_
                        (first | rw [← Ny112.out] at ho41 | (simp only [Int.reduceToNat] at ho41; rw [← Ny112.out] at ho41))
                        have n0_ := Aside0.mk (Kd.R_elder' (by (with_reducible repeat (first | apply Kd.R_alloc | apply Kd.R_drewN | apply Kd.R_drew)); exact HO_6.out) (Kd.R_base ho41) hb)
                        have n1_ := Aside0.mk (Kd.R_elder' (by (with_reducible repeat (first | apply Kd.R_alloc | apply Kd.R_drewN | apply Kd.R_drew)); exact HO120.out) (Kd.R_base ho41) hb)
                        have n2_ := Aside0.mk (Kd.R_lower (Kd.R_newB (Kd.R_new' (Kd.R_new' ho41 (Kd.R_lt (by (with_reducible repeat (first | apply Kd.R_alloc | apply Kd.R_drewN | apply Kd.R_drew)); exact HO_6.out))) (Kd.R_lt (by (with_reducible repeat (first | apply Kd.R_alloc | apply Kd.R_drewN | apply Kd.R_drew)); exact HO120.out))) (g := gb103) (o := .cells #[.int .i64 a1_0, .int .i64 a1_1] 24 (0, 0)) (by (with_reducible repeat (first | refine blk_drewN ?_ _ | refine blk_drew ?_ | refine blk_alloc ?_ _)); exact BK103.out)) (below_size (by repeat (first | (with_reducible first | exact HB.out | apply below_alloc | apply pw_below_drewN | apply below_drew1 | refine below_set ?_ GE103.out) | exact HB.out))))
                        have n3_ := Aside0.mk (blk_below (g := gb103) (o := .cells #[.int .i64 a1_0, .int .i64 a1_1] 24 (0, 0)) (by (with_reducible repeat (first | refine blk_drewN ?_ _ | refine blk_drew ?_ | refine blk_alloc ?_ _)); exact BK103.out) hb)
                        have n4_ := Aside0.mk (below_step (by repeat (first | (with_reducible first | exact HB.out | apply below_alloc | apply pw_below_drewN | apply below_drew1 | refine below_set ?_ GE103.out) | exact HB.out)) hb)
                        clear HO_6
                        clear HO120
                        clear BK103
                        clear HB
                        have HO_6 := n0_
                        have HO120 := n1_
                        have HO114 := n2_
                        have BK103 := n3_
                        have HB := n4_
                        clear n0_ n1_ n2_ n3_ n4_
                        clear hb ho41
                        refine hK.out _ _ ⟨(blk_cell BK103.out 0).trans rfl, (blk_cell BK103.out 1).trans rfl⟩ (fun hHeld => ?_)
                        clear hK K
                        refine norm_ (a' := ?_) ?_ ?_
                        rotate_left
                        · show Act.put _ (some 43) _ = _
                          simp only [Act.put, List.setIfInBounds_toArray, List.set_cons_zero, List.set_cons_succ, i64_w, i32_w]
                          rfl
                        refine one_ (i := 3) (N := some 45) #[true, true, true, true, true, true, false, false, false] rfl rfl (one_of HT_.out (by kernel_rfl)) (by decide) (fun K hK => ?_)
                        refine Kd.R_append_rows_step k24 (w0 := w) w.heap.size (by rfl) (.tmp 43) (.tmp 44) 22 24 (.agg #[(.int .i64 0), (.int .i64 0)]) 16 rfl Try.underlying22 info24 rfl (by decide) (by omega) v113 y112 l0 _ _ _ (fun k_ => some k_ ≠ (.slice Ao36 t104.length co36 : Value).ownBlock ∧ some k_ ≠ (v119 : Value).ownBlock ∧ k_ ≠ gb103) (fun _ => False) rfl rfl ?aO ?aR (fun _ _ h => h) (fun _ h => h.elim) ?aF ?aB ?aS ?aL ?_
                        (case aR => repeat (first | exact (Kd.C_below HR0.out HB.out) | (with_reducible refine Kd.C_alloc ?_ _) | (with_reducible refine Kd.C_drewN ?_ _) | (with_reducible refine Kd.C_drew ?_)))
                        (case aB => exact (by repeat (first | (with_reducible first | exact HB.out | apply below_alloc | apply pw_below_drewN | apply below_drew1 | refine below_set ?_ GE103.out) | exact HB.out)))
                        (case aF => exact (fun k_ hk => ⟨Kd.fresh' (Kd.R_lt (by (with_reducible repeat (first | apply Kd.R_alloc | apply Kd.R_drewN | apply Kd.R_drew)); exact HO_6.out)) k_ hk, Kd.fresh' (Kd.R_lt (by (with_reducible repeat (first | apply Kd.R_alloc | apply Kd.R_drewN | apply Kd.R_drew)); exact HO120.out)) k_ hk, Kd.freshB (g := gb103) (o := .cells #[.int .i64 a1_0, .int .i64 a1_1] 24 (0, 0)) (by (with_reducible repeat (first | refine blk_drewN ?_ _ | refine blk_drew ?_ | refine blk_alloc ?_ _)); exact BK103.out) k_ hk⟩))
                        (case aO => exact (by (with_reducible repeat (first | apply Kd.R_alloc | apply Kd.R_drewN | apply Kd.R_drew)); exact Kd.R_mono HO114.out (fun _ hk => ⟨hk.1.1.2, ⟨hk.1.2, hk.2⟩⟩)))
                        (case aS => exact (below_size (by repeat (first | (with_reducible first | exact HB.out | apply below_alloc | apply pw_below_drewN | apply below_drew1 | refine below_set ?_ GE103.out) | exact HB.out))))
                        (case aL => have := LMc33.out; omega)
                        intro v116 w42 ho hb hg hat
                        rw [← Ny115.out] at ho
                        have n0_ := Aside0.mk (Kd.R_after (ok := (fun k_ => some k_ ≠ (v119 : Value).ownBlock ∧ k_ ≠ gb103)) (by (with_reducible repeat (first | apply Kd.R_alloc | apply Kd.R_drewN | apply Kd.R_drew)); exact Kd.R_mono HO_6.out (fun _ hk => ⟨⟨hk.1.2, hk.1.1⟩, hk.2⟩)) hg hat)
                        have n1_ := Aside0.mk (blk_grown (g := gb103) (o := .cells #[.int .i64 a1_0, .int .i64 a1_1] 24 (0, 0)) (by (with_reducible repeat (first | refine blk_drewN ?_ _ | refine blk_drew ?_ | refine blk_alloc ?_ _)); exact BK103.out) hg (Kd.R_away HO114.out (fun _ hk => hk.2)))
                        have n2_ := Aside0.mk (Kd.R_after (ok := (fun k_ => some k_ ≠ (.slice Ao36 t104.length co36 : Value).ownBlock ∧ k_ ≠ gb103)) (by (with_reducible repeat (first | apply Kd.R_alloc | apply Kd.R_drewN | apply Kd.R_drew)); exact Kd.R_mono HO120.out (fun _ hk => ⟨⟨hk.1.1.2, hk.1.2⟩, hk.2⟩)) hg hat)
                        have n3_ := Aside0.mk (hb)
                        have n4_ := Aside0.mk (ho)
                        clear HO_6
                        clear BK103
                        clear HO120
                        clear HB
                        clear HO114
                        have HO_6 := n0_
                        have BK103 := n1_
                        have HO120 := n2_
                        have HB := n3_
                        have HO117 := n4_
                        clear n0_ n1_ n2_ n3_ n4_
                        clear ho hb hg hat
                        refine hK.out _ _ ⟨(blk_cell BK103.out 0).trans rfl, (blk_cell BK103.out 1).trans rfl⟩ (fun hHeld => ?_)
                        clear hK K
                        refine norm_ (a' := ?_) ?_ ?_
                        rotate_left
                        · show Act.put _ (some 45) _ = _
                          simp only [Act.put, List.setIfInBounds_toArray, List.set_cons_zero, List.set_cons_succ, i64_w, i32_w]
                          rfl
                        exact norm_ (by simp only [putAll, Act.put, List.setIfInBounds_toArray, List.set_cons_zero, List.set_cons_succ]) (hCont (v113, v116, v119) _ ⟨hHeld, (by (with_reducible repeat (first | apply Kd.R_alloc | apply Kd.R_drewN | apply Kd.R_drew)); exact Kd.R_mono HO117.out (fun _ hk => ⟨hk.2.1, ⟨hk.1, hk.2.2⟩⟩)), (by (with_reducible repeat (first | apply Kd.R_alloc | apply Kd.R_drewN | apply Kd.R_drew)); exact Kd.R_mono HO120.out (fun _ hk => ⟨hk.2, ⟨hk.1.1, hk.1.2⟩⟩)), (by (with_reducible repeat (first | apply Kd.R_alloc | apply Kd.R_drewN | apply Kd.R_drew)); exact Kd.R_mono HO_6.out (fun _ hk => ⟨hk.2, ⟨hk.1.1, hk.1.2⟩⟩)), (by (with_reducible repeat (first | refine blk_drewN ?_ _ | refine blk_drew ?_ | refine blk_alloc ?_ _)); exact BK103.out), (by repeat (first | (with_reducible first | exact HB.out | apply below_alloc | apply pw_below_drewN | apply below_drew1 | refine below_set ?_ GE103.out) | exact HB.out))⟩)
                    rintro ⟨v113, v116, v119⟩ w43 ⟨hS_, h0_, h1_, h2_, h3_, h4_⟩
                    have n0_ : Aside0 (Kd.R k24 24 w43 w.heap.size (fun k_ => some k_ ≠ (v119 : Value).ownBlock ∧ some k_ ≠ (.slice Ao36 t104.length co36 : Value).ownBlock ∧ k_ ≠ gb103) v116 y115) := ⟨h0_⟩
                    have n1_ : Aside0 (Kd.R k24 24 w43 w.heap.size (fun k_ => some k_ ≠ (v116 : Value).ownBlock ∧ some k_ ≠ (.slice Ao36 t104.length co36 : Value).ownBlock ∧ k_ ≠ gb103) v119 y118) := ⟨h1_⟩
                    have n2_ : Aside0 (Kd.R k24 24 w43 w.heap.size (fun k_ => some k_ ≠ (v116 : Value).ownBlock ∧ some k_ ≠ (v119 : Value).ownBlock ∧ k_ ≠ gb103) (.slice Ao36 t104.length co36) t104) := ⟨h2_⟩
                    have n3_ : Aside0 (w43.heap[gb103]? = some (.cells #[.int .i64 a1_0, .int .i64 a1_1] 24 (0, 0))) := ⟨h3_⟩
                    have n4_ : Aside0 (Below w.heap.size w w43) := ⟨h4_⟩
                    clear HO_6
                    clear BK103
                    clear HB
                    clear h0_ h1_ h2_ h3_ h4_
                    have HO117 := n0_
                    have HO120 := n1_
                    have HO_6 := n2_
                    have BK103 := n3_
                    have HB := n4_
                    clear n0_ n1_ n2_ n3_ n4_
                    have hHeld : w43.cell? ⟨gb103, 0, none⟩ = some (.int .i64 a1_0) ∧ w43.cell? ⟨gb103, 1, none⟩ = some (.int .i64 a1_1) := hS_
                    obtain ⟨Ao45, co45, eo45⟩ := Kd.R_slice HO120.out
                    (first | subst eo45 | (injection eo45 with f1_ f2_ f3_; have f4_ := f1_.symm; have f5_ := f3_.symm; clear f1_ f2_ f3_; subst f4_; subst f5_))
                    refine norm_ (a' := ?_) ?_ ?_
                    rotate_left
                    · simp only [putAll, Act.put, List.setIfInBounds_toArray, List.set_cons_zero, List.set_cons_succ]
                      rfl
                    refine one_ (i := 6) (N := some 48) #[true, true, true, true, true, true, true, false, false] rfl rfl (one_of HT_.out (by kernel_rfl)) (by decide) (fun K hK => ?_)
                    refine Kd.R_append_rows_step k24 (w0 := w) w.heap.size (by rfl) (.tmp 45) (.tmp 47) 22 24 (.agg #[(.int .i64 0), (.int .i64 0)]) 16 rfl Try.underlying22 info24 rfl (by decide) (by omega) v116 y115 y118 _ _ _ (fun k_ => some k_ ≠ (.slice Ao36 t104.length co36 : Value).ownBlock ∧ some k_ ≠ (.slice Ao45 y118.length co45 : Value).ownBlock ∧ k_ ≠ gb103) (fun _ => False) rfl rfl ?aO ?aR (fun _ _ h => h) (fun _ h => h.elim) ?aF ?aB ?aS ?aL ?_
                    (case aR => repeat (first | exact (Kd.R_reads' HO120.out).2.2 | (with_reducible refine Kd.C_alloc ?_ _) | (with_reducible refine Kd.C_drewN ?_ _) | (with_reducible refine Kd.C_drew ?_)))
                    (case aB => exact (by repeat (first | (with_reducible first | exact HB.out | apply below_alloc | apply pw_below_drewN | apply below_drew1 | refine below_set ?_ GE103.out) | exact HB.out)))
                    (case aF => exact (fun k_ hk => ⟨Kd.fresh' (Kd.R_lt (by (with_reducible repeat (first | apply Kd.R_alloc | apply Kd.R_drewN | apply Kd.R_drew)); exact HO_6.out)) k_ hk, Kd.fresh' (Kd.R_lt (by (with_reducible repeat (first | apply Kd.R_alloc | apply Kd.R_drewN | apply Kd.R_drew)); exact HO120.out)) k_ hk, Kd.freshB (g := gb103) (o := .cells #[.int .i64 a1_0, .int .i64 a1_1] 24 (0, 0)) (by (with_reducible repeat (first | refine blk_drewN ?_ _ | refine blk_drew ?_ | refine blk_alloc ?_ _)); exact BK103.out) k_ hk⟩))
                    (case aO => exact (by (with_reducible repeat (first | apply Kd.R_alloc | apply Kd.R_drewN | apply Kd.R_drew)); exact Kd.R_mono HO117.out (fun _ hk => ⟨hk.2.1, ⟨hk.1, hk.2.2⟩⟩)))
                    (case aS => exact (below_size (by repeat (first | (with_reducible first | exact HB.out | apply below_alloc | apply pw_below_drewN | apply below_drew1 | refine below_set ?_ GE103.out) | exact HB.out))))
                    (case aL => have := LMc34.out; omega)
                    intro v122 w44 ho hb hg hat
                    rw [← Ny121.out] at ho
                    have n0_ := Aside0.mk (Kd.R_after (ok := (fun k_ => some k_ ≠ (.slice Ao45 y118.length co45 : Value).ownBlock ∧ k_ ≠ gb103)) (by (with_reducible repeat (first | apply Kd.R_alloc | apply Kd.R_drewN | apply Kd.R_drew)); exact Kd.R_mono HO_6.out (fun _ hk => ⟨⟨hk.2.1, hk.2.2⟩, hk.1⟩)) hg hat)
                    have n1_ := Aside0.mk (blk_grown (g := gb103) (o := .cells #[.int .i64 a1_0, .int .i64 a1_1] 24 (0, 0)) (by (with_reducible repeat (first | refine blk_drewN ?_ _ | refine blk_drew ?_ | refine blk_alloc ?_ _)); exact BK103.out) hg (Kd.R_away HO117.out (fun _ hk => hk.2.2)))
                    have n2_ := Aside0.mk (Kd.R_after (ok := (fun k_ => some k_ ≠ (.slice Ao36 t104.length co36 : Value).ownBlock ∧ k_ ≠ gb103)) (by (with_reducible repeat (first | apply Kd.R_alloc | apply Kd.R_drewN | apply Kd.R_drew)); exact Kd.R_mono HO120.out (fun _ hk => ⟨⟨hk.2.1, hk.2.2⟩, hk.1⟩)) hg hat)
                    have n3_ := Aside0.mk (hb)
                    have n4_ := Aside0.mk (ho)
                    clear HO_6
                    clear BK103
                    clear HO120
                    clear HB
                    clear HO117
                    have HO_6 := n0_
                    have BK103 := n1_
                    have HO120 := n2_
                    have HB := n3_
                    have HO123 := n4_
                    clear n0_ n1_ n2_ n3_ n4_
                    clear ho hb hg hat
                    obtain ⟨Ao46, co46, eo46⟩ := Kd.R_slice HO123.out
                    (first | subst eo46 | (injection eo46 with f1_ f2_ f3_; have f4_ := f1_.symm; have f5_ := f3_.symm; clear f1_ f2_ f3_; subst f4_; subst f5_))
                    refine hK.out _ _ ⟨(blk_cell BK103.out 0).trans rfl, (blk_cell BK103.out 1).trans rfl⟩ (fun hHeld => ?_)
                    clear hK K
                    refine norm_ (a' := ?_) ?_ ?_
                    rotate_left
                    · show Act.put _ (some 48) _ = _
                      simp only [Act.put, List.setIfInBounds_toArray, List.set_cons_zero, List.set_cons_succ, i64_w, i32_w]
                      rfl
                    refine one_ (i := 7) (N := some 49) #[true, true, true, true, true, true, true, true, false] rfl rfl (one_of HT_.out (by kernel_rfl)) (by decide) (fun K hK => ?_)
                    refine goes_ Try.func12 (by kernel_rfl) rfl #[.slice Ao36 t104.length co36, .slice Ao46 y121.length co46] (by rfl) rfl rfl (by (try simp only [List.map_toArray, List.map_cons, List.map_nil]); first | done | rfl | (simp only [List.length_drop, List.length_take]; rfl)) ?_
                    with_reducible refine (laws_sameRanges.calls kj18 _ _ t104 _ _ y121 t124 _ ?side1 ?side2 ?side3 ?side4 A35.out).mono ?_
                    (case side1 => repeat (first | exact (Kd.R_reads' HO_6.out).2.2 | (with_reducible refine Kd.C_alloc ?_ _) | (with_reducible refine Kd.C_drewN ?_ _) | (with_reducible refine Kd.C_drew ?_)))
                    (case side2 => exact (Kd.R_reads' HO_6.out).2.1)
                    (case side3 => repeat (first | exact (Kd.R_reads' HO123.out).2.2 | (with_reducible refine Kd.C_alloc ?_ _) | (with_reducible refine Kd.C_drewN ?_ _) | (with_reducible refine Kd.C_drew ?_)))
                    (case side4 => exact (Kd.R_reads' HO123.out).2.1)
                    rintro e w' ⟨rfl, ⟨nd, rfl⟩⟩
                    refine ⟨_, rfl, ?_⟩
                    refine hK.out _ _ ⟨(blk_cell BK103.out 0).trans rfl, (blk_cell BK103.out 1).trans rfl⟩ (fun hHeld => ?_)
                    clear hK K
                    refine norm_ (a' := ?_) ?_ ?_
                    rotate_left
                    · show Act.put _ (some 49) _ = _
                      simp only [Act.put, List.setIfInBounds_toArray, List.set_cons_zero, List.set_cons_succ, i64_w, i32_w]
                      rfl
                    refine pure_ (i := 8) (N := some 4) (v := ?_) (a' := ?_) #[true, true, true, true, true, true, true, true, true] rfl rfl (any_of HT_.out (by kernel_rfl)) (fun _ _ _ h => h) (Or.inl ⟨by rfl, ?_⟩) ?_ ?_
                    rotate_left
                    · intro w'
                      go_simp
                      with_reducible rfl
                    rotate_left
                    · simp only [Act.put, List.setIfInBounds_toArray, List.set_cons_zero, List.set_cons_succ, i64_w, i32_w]
                      rfl
                    refine done_ (done_of HT_.out (by kernel_rfl)) ?_
                    try go_wp2
                    go_ret
                    exact ⟨by first | rfl | (simp [errW_none, errW_some] <;> rfl) | (simp [*, errW_none, errW_some] <;> rfl), by repeat (first | (with_reducible first | exact HB.out | apply below_alloc | apply pw_below_drewN | apply below_drew1 | refine below_set ?_ GE103.out) | exact HB.out)⟩
                  · rw [if_neg c34] at H
                    exact absurd H (by simp)
                · rw [if_neg c33] at H
                  exact absurd H (by simp)
              · replace c32 := Bool.eq_false_iff.mpr c32
                subst c32
                have H1 : (if 0 ≤ (wrap64 ((l0.length : Int) - 1)) then (if (wrap64 ((l0.length : Int) - 1)) < (l0.length : Int) then (if a1_0 < ((rd_T24 l0 (wrap64 ((l0.length : Int) - 1))).f1) then (some true) else (if (t104.length : Int) = (l0.length : Int) then (if (wrap64 ((l0.length : Int) - 1)) ≤ (t104.length : Int) then (if (wrap64 ((l0.length : Int) - 1)) ≤ (l0.length : Int) then ((laws_sameRanges.f kj18 (t104.take ((wrap64 ((l0.length : Int) - 1)) : Int).toNat) (l0.take ((wrap64 ((l0.length : Int) - 1)) : Int).toNat)).bind fun t134 => (if t134 = true then (if (wrap64 ((l0.length : Int) - 1)) < (t104.length : Int) then (some (((rd_T24 t104 (wrap64 ((l0.length : Int) - 1))).f0) == ((rd_T24 l0 (wrap64 ((l0.length : Int) - 1))).f0) && (((rd_T24 t104 (wrap64 ((l0.length : Int) - 1))).f1) == a1_1))) else (none)) else (some false))) else (none)) else (none)) else (some false))) else (none)) else (none)) = some r := by rw [if_neg (show ¬ (false = true) by decide)] at H; exact H
                clear H
                have H := H1
                clear H1
                obtain ⟨ji47, hji47⟩ : ∃ j_ : Int, (wrap64 ((l0.length : Int) - 1)) = j_ := ⟨_, rfl⟩
                replace H : (if 0 ≤ (ji47) then (if (ji47) < (l0.length : Int) then (if a1_0 < ((rd_T24 l0 (ji47)).f1) then (some true) else (if (t104.length : Int) = (l0.length : Int) then (if (ji47) ≤ (t104.length : Int) then (if (ji47) ≤ (l0.length : Int) then ((laws_sameRanges.f kj18 (t104.take ((ji47) : Int).toNat) (l0.take ((ji47) : Int).toNat)).bind fun t134 => (if t134 = true then (if (ji47) < (t104.length : Int) then (some (((rd_T24 t104 (ji47)).f0) == ((rd_T24 l0 (ji47)).f0) && (((rd_T24 t104 (ji47)).f1) == a1_1))) else (none)) else (some false))) else (none)) else (none)) else (some false))) else (none)) else (none)) = some r := by first | (rw [hji47] at H; exact H) | (simp only [hji47] at H ⊢; exact H)
                have hji47w : (IntKind.i64.wrap ((l0.length : Int) - 1)) = ji47 := (i64_w _).trans hji47
                by_cases c48 : 0 ≤ (ji47)
                · rw [if_pos c48] at H
                  have c48b0 : decide (0 ≤ (ji47)) = true := decide_eq_true c48
                  clear c48
                  by_cases c49 : (ji47) < (l0.length : Int)
                  · rw [if_pos c49] at H
                    have c49b0 : decide ((ji47) < (l0.length : Int)) = true := decide_eq_true c49
                    clear c49
                    by_cases c50 : a1_0 < ((rd_T24 l0 (ji47)).f1)
                    · rw [if_pos c50] at H
                      have c50b0 : decide (a1_0 < ((rd_T24 l0 (ji47)).f1)) = true := decide_eq_true c50
                      clear c50
                      obtain rfl := Option.some.inj H
                      try go_wp2
                      have n0_ := Aside0.mk (Kd.R_drew HO_6.out)
                      have n1_ := Aside0.mk (blk_drew BK103.out)
                      have n2_ := Aside0.mk (below_drew1 HB.out)
                      clear HO_6
                      clear BK103
                      clear HB
                      have HO_6 := n0_
                      have BK103 := n1_
                      have HB := n2_
                      clear n0_ n1_ n2_
                      have p125 : 0 ≤ ((ji47) : Int) := of_decide_eq_true (by first | (with_reducible assumption) | assumption)
                      have q125 : (ji47) < (l0.length : Int) := of_decide_eq_true (by first | (with_reducible assumption) | assumption)
                      obtain ⟨ad125, e125, hx125_0, hx125_1⟩ := at_T24 HR0.out (ji47) p125 q125
                      have hw125_1 := hx125_1
                      have hw125_0 := hx125_0
                      cases e125
                      replace hx125_0 := (HB.out.cell (World.block_lt_of_cell? w _ hx125_0)).trans hx125_0
                      replace hx125_1 := (HB.out.cell (World.block_lt_of_cell? w _ hx125_1)).trans hx125_1
                      replace p125 := eq_true p125
                      replace q125 := eq_true q125
                      refine start_ (n := 9) (S := fun w' => w'.cell? ⟨gb103, 0, none⟩ = some (.int .i64 a1_0) ∧ w'.cell? ⟨gb103, 1, none⟩ = some (.int .i64 a1_1) ∧ w'.cell? (ad125.add (((ji47)).toNat * 2)) = some (.int .i64 ((rd_T24 l0 (ji47)).f0)) ∧ w'.cell? ⟨(ad125.add (((ji47)).toNat * 2)).block, (ad125.add (((ji47)).toNat * 2)).off + 1, none⟩ = some (.int .i64 ((rd_T24 l0 (ji47)).f1))) (ds := []) #[false, false, false, false, false, false, false, false, false] (by kernel_rfl) rfl rfl ⟨(blk_cell BK103.out 0).trans rfl, (blk_cell BK103.out 1).trans rfl, ((HB.out.cell (World.block_lt_of_cell? w _ hw125_0)).trans hw125_0), ((HB.out.cell (World.block_lt_of_cell? w _ hw125_1)).trans hw125_1)⟩ (fun hHeld => ?_); refine with_tabW laws_FnAppendRange.tab13 laws_FnAppendRange.bits13 (fun HT_ HW_ => ?_)
                      generalize wc.drew = w51 at HO_6 BK103 HB hx125_0 hx125_1 hHeld ⊢
                      refine pure_ (i := 0) (N := some 50) (v := ?_) (a' := ?_) #[true, false, false, false, false, false, false, false, false] rfl rfl (any_of HT_.out (by kernel_rfl)) (fun _ _ _ h => h) (Or.inl ⟨by rfl, ?_⟩) ?_ ?_
                      rotate_left
                      · intro w'
                        go_simp
                        with_reducible rfl
                      rotate_left
                      · simp only [Act.put, List.setIfInBounds_toArray, List.set_cons_zero, List.set_cons_succ, i64_w, i32_w]
                        rfl
                      refine pure_ (i := 2) (N := some 52) (v := ?_) (a' := ?_) #[true, false, true, false, false, false, false, false, false] rfl rfl (any_of HT_.out (by kernel_rfl)) (fun _ _ _ h => h) (Or.inl ⟨by rfl, ?_⟩) ?_ ?_
                      rotate_left
                      · intro w'
                        go_simp
                        with_reducible rfl
                      rotate_left
                      · simp only [Act.put, List.setIfInBounds_toArray, List.set_cons_zero, List.set_cons_succ, i64_w, i32_w]
                        rfl
                      refine pure_ (i := 3) (N := some 53) (v := ?_) (a' := ?_) #[true, false, true, true, false, false, false, false, false] rfl rfl (any_of HT_.out (by kernel_rfl)) (fun _ _ _ h => h) (Or.inl ⟨by rfl, ?_⟩) ?_ ?_
                      rotate_left
                      · intro w'
                        go_simp
                        with_reducible rfl
                      rotate_left
                      · simp only [Act.put, List.setIfInBounds_toArray, List.set_cons_zero, List.set_cons_succ, i64_w, i32_w]
                        rfl
                      refine pure_ (i := 4) (N := some 54) (v := ?_) (a' := ?_) #[true, false, true, true, true, false, false, false, false] rfl rfl (any_of HT_.out (by kernel_rfl)) (fun _ _ _ h => h) (Or.inl ⟨by rfl, ?_⟩) ?_ ?_
                      rotate_left
                      · intro w'
                        go_simp
                        with_reducible rfl
                      rotate_left
                      · simp only [Act.put, List.setIfInBounds_toArray, List.set_cons_zero, List.set_cons_succ, i64_w, i32_w]
                        rfl
                      refine pure_ (i := 5) (N := some 55) (v := ?_) (a' := ?_) #[true, false, true, true, true, true, false, false, false] rfl rfl (any_of HT_.out (by kernel_rfl)) (fun _ _ _ h => h) (Or.inl ⟨by rfl, ?_⟩) ?_ ?_
                      rotate_left
                      · intro w'
                        go_simp
                        with_reducible rfl
                      rotate_left
                      · simp only [Act.put, List.setIfInBounds_toArray, List.set_cons_zero, List.set_cons_succ, i64_w, i32_w]
                        rfl
                      refine pure_ (i := 6) (N := some 56) (v := ?_) (a' := ?_) #[true, false, true, true, true, true, true, false, false] rfl rfl (any_of HT_.out (by kernel_rfl)) (fun _ _ _ h => h) (Or.inl ⟨by rfl, ?_⟩) ?_ ?_
                      rotate_left
                      · intro w'
                        go_simp
                        with_reducible rfl
                      rotate_left
                      · simp only [Act.put, List.setIfInBounds_toArray, List.set_cons_zero, List.set_cons_succ, i64_w, i32_w]
                        rfl
                      refine take_ (i := 1) (N := some 51) (v := ?_) (a' := ?_) #[true, true, true, true, true, true, true, false, false] rfl rfl (take_ofW HT_.out HW_.out (by kernel_rfl)) (fun _ _ _ h => h) (Or.inl ⟨by rfl, ?_⟩) hHeld ?_ ?_
                      rotate_left
                      · rintro w' ⟨s0, s1, s2, s3⟩
                        go_simp
                        with_reducible rfl
                      rotate_left
                      · simp only [Act.put, List.setIfInBounds_toArray, List.set_cons_zero, List.set_cons_succ, i64_w, i32_w]
                        rfl
                      refine take_ (i := 7) (N := some 57) (v := ?_) (a' := ?_) #[true, true, true, true, true, true, true, true, false] rfl rfl (take_ofW HT_.out HW_.out (by kernel_rfl)) (fun _ _ _ h => h) (Or.inl ⟨by rfl, ?_⟩) hHeld ?_ ?_
                      rotate_left
                      · rintro w' ⟨s0, s1, s2, s3⟩
                        go_simp
                        with_reducible rfl
                      rotate_left
                      · simp only [Act.put, List.setIfInBounds_toArray, List.set_cons_zero, List.set_cons_succ, i64_w, i32_w]
                        rfl
                      refine pure_ (i := 8) (N := some 58) (v := ?_) (a' := ?_) #[true, true, true, true, true, true, true, true, true] rfl rfl (any_of HT_.out (by kernel_rfl)) (fun _ _ _ h => h) (Or.inl ⟨by rfl, ?_⟩) ?_ ?_
                      rotate_left
                      · intro w'
                        go_simp
                        with_reducible rfl
                      rotate_left
                      · simp only [Act.put, List.setIfInBounds_toArray, List.set_cons_zero, List.set_cons_succ, i64_w, i32_w]
                        rfl
                      refine done_ (done_of HT_.out (by kernel_rfl)) ?_
                      try go_wp2
                      go_ret
                      exact ⟨by first | rfl | (simp [errW_none, errW_some] <;> rfl) | (simp only [← hji47]; first | rfl | (simp [errW_none, errW_some] <;> rfl)) | (simp [*, errW_none, errW_some] <;> rfl), by repeat (first | (with_reducible first | exact HB.out | apply below_alloc | apply pw_below_drewN | apply below_drew1 | refine below_set ?_ GE103.out) | exact HB.out)⟩
                    · rw [if_neg c50] at H
                      have c50b0 : decide (a1_0 < ((rd_T24 l0 (ji47)).f1)) = false := decide_eq_false c50
                      clear c50
                      by_cases c52 : (t104.length : Int) = (l0.length : Int)
                      · rw [if_pos c52] at H
                        have c52b0 : ((t104.length : Int) == (l0.length : Int)) = true := beq_iff_eq.mpr c52
                        have c52b1 : ((t104.length : Int) != (l0.length : Int)) = false := bne_eq_false_iff_eq.mpr c52
                        have c52b2 : (t104.length == l0.length) = true := by first | simpa using c52 | (simp at c52 ⊢; omega)
                        clear c52
                        have c53b0 := eq_true (of_decide_eq_true (by first | (with_reducible assumption) | assumption) : 0 ≤ (ji47))
                        by_cases c54 : (ji47) ≤ (t104.length : Int)
                        · rw [if_pos c54] at H
                          have c54b0 := eq_true c54
                          have c54b1 : decide ((ji47) ≤ (t104.length : Int)) = true := decide_eq_true c54
                          clear c54
                          obtain ⟨y126, hy126⟩ : ∃ y_ : List (S24), y_ = (t104.take ((ji47) : Int).toNat) := ⟨_, rfl⟩
                          replace H : (if (ji47) ≤ (l0.length : Int) then ((laws_sameRanges.f kj18 y126 (l0.take ((ji47) : Int).toNat)).bind fun t134 => (if t134 = true then (if (ji47) < (t104.length : Int) then (some (((rd_T24 t104 (ji47)).f0) == ((rd_T24 l0 (ji47)).f0) && (((rd_T24 t104 (ji47)).f1) == a1_1))) else (none)) else (some false))) else (none)) = some r := by first | (rw [hy126]; with_reducible exact H) | (have H2_ := (Option.bind_some _ _).symm.trans H; rw [hy126]; with_reducible exact H2_) | (have H2_ := (Option.bind_some _ _).symm.trans H; with_reducible exact H2_) | with_reducible exact H | (rw [hy126]; exact H) | exact H
                          have Ny126 := Aside0.mk hy126
                          clear hy126
                          have c55b0 := eq_true (of_decide_eq_true (by first | (with_reducible assumption) | assumption) : 0 ≤ (ji47))
                          by_cases c56 : (ji47) ≤ (l0.length : Int)
                          · rw [if_pos c56] at H
                            have c56b0 := eq_true c56
                            have c56b1 : decide ((ji47) ≤ (l0.length : Int)) = true := decide_eq_true c56
                            clear c56
                            obtain ⟨y130, hy130⟩ : ∃ y_ : List (S24), y_ = (l0.take ((ji47) : Int).toNat) := ⟨_, rfl⟩
                            replace H : ((laws_sameRanges.f kj18 y126 y130).bind fun t134 => (if t134 = true then (if (ji47) < (t104.length : Int) then (some (((rd_T24 t104 (ji47)).f0) == ((rd_T24 l0 (ji47)).f0) && (((rd_T24 t104 (ji47)).f1) == a1_1))) else (none)) else (some false))) = some r := by first | (rw [hy130]; with_reducible exact H) | (have H2_ := (Option.bind_some _ _).symm.trans H; rw [hy130]; with_reducible exact H2_) | (have H2_ := (Option.bind_some _ _).symm.trans H; with_reducible exact H2_) | with_reducible exact H | (rw [hy130]; exact H) | exact H
                            have Ny130 := Aside0.mk hy130
                            clear hy130
                            replace H := Option.bind_eq_some_iff.mp H
                            obtain ⟨t134, A570, H⟩ := H
                            replace H : (if t134 = true then (if (ji47) < (t104.length : Int) then (some (((rd_T24 t104 (ji47)).f0) == ((rd_T24 l0 (ji47)).f0) && (((rd_T24 t104 (ji47)).f1) == a1_1))) else (none)) else (some false)) = some r := H
                            have A57 := Aside0.mk A570
                            clear A570
                            by_cases c58 : t134 = true
                            · subst c58
                              have H1 : (if (ji47) < (t104.length : Int) then (some (((rd_T24 t104 (ji47)).f0) == ((rd_T24 l0 (ji47)).f0) && (((rd_T24 t104 (ji47)).f1) == a1_1))) else (none)) = some r := by rw [if_pos rfl] at H; exact H
                              clear H
                              have H := H1
                              clear H1
                              by_cases c59 : (ji47) < (t104.length : Int)
                              · rw [if_pos c59] at H
                                have c59b0 : decide ((ji47) < (t104.length : Int)) = true := decide_eq_true c59
                                clear c59
                                obtain rfl := Option.some.inj H
                                try go_wp2
                                have n0_ := Aside0.mk (Kd.R_drew HO_6.out)
                                have n1_ := Aside0.mk (blk_drew BK103.out)
                                have n2_ := Aside0.mk (below_drew1 HB.out)
                                clear HO_6
                                clear BK103
                                clear HB
                                have HO_6 := n0_
                                have BK103 := n1_
                                have HB := n2_
                                clear n0_ n1_ n2_
                                have p125 : 0 ≤ ((ji47) : Int) := of_decide_eq_true (by first | (with_reducible assumption) | assumption)
                                have q125 : (ji47) < (l0.length : Int) := of_decide_eq_true (by first | (with_reducible assumption) | assumption)
                                obtain ⟨ad125, e125, hx125_0, hx125_1⟩ := at_T24 HR0.out (ji47) p125 q125
                                have hw125_1 := hx125_1
                                have hw125_0 := hx125_0
                                cases e125
                                replace hx125_0 := (HB.out.cell (World.block_lt_of_cell? w _ hx125_0)).trans hx125_0
                                replace hx125_1 := (HB.out.cell (World.block_lt_of_cell? w _ hx125_1)).trans hx125_1
                                replace p125 := eq_true p125
                                replace q125 := eq_true q125
                                refine start_ (n := 9) (S := fun w' => w'.cell? ⟨gb103, 0, none⟩ = some (.int .i64 a1_0) ∧ w'.cell? ⟨gb103, 1, none⟩ = some (.int .i64 a1_1) ∧ w'.cell? (ad125.add (((ji47)).toNat * 2)) = some (.int .i64 ((rd_T24 l0 (ji47)).f0)) ∧ w'.cell? ⟨(ad125.add (((ji47)).toNat * 2)).block, (ad125.add (((ji47)).toNat * 2)).off + 1, none⟩ = some (.int .i64 ((rd_T24 l0 (ji47)).f1))) (ds := []) #[false, false, false, false, false, false, false, false, false] (by kernel_rfl) rfl rfl ⟨(blk_cell BK103.out 0).trans rfl, (blk_cell BK103.out 1).trans rfl, ((HB.out.cell (World.block_lt_of_cell? w _ hw125_0)).trans hw125_0), ((HB.out.cell (World.block_lt_of_cell? w _ hw125_1)).trans hw125_1)⟩ (fun hHeld => ?_); refine with_tabW laws_FnAppendRange.tab13 laws_FnAppendRange.bits13 (fun HT_ HW_ => ?_)
                                generalize wc.drew = w60 at HO_6 BK103 HB hx125_0 hx125_1 hHeld ⊢
                                refine pure_ (i := 0) (N := some 50) (v := ?_) (a' := ?_) #[true, false, false, false, false, false, false, false, false] rfl rfl (any_of HT_.out (by kernel_rfl)) (fun _ _ _ h => h) (Or.inl ⟨by rfl, ?_⟩) ?_ ?_
                                rotate_left
                                · intro w'
                                  go_simp
                                  with_reducible rfl
                                rotate_left
                                · simp only [Act.put, List.setIfInBounds_toArray, List.set_cons_zero, List.set_cons_succ, i64_w, i32_w]
                                  rfl
                                refine pure_ (i := 2) (N := some 52) (v := ?_) (a' := ?_) #[true, false, true, false, false, false, false, false, false] rfl rfl (any_of HT_.out (by kernel_rfl)) (fun _ _ _ h => h) (Or.inl ⟨by rfl, ?_⟩) ?_ ?_
                                rotate_left
                                · intro w'
                                  go_simp
                                  with_reducible rfl
                                rotate_left
                                · simp only [Act.put, List.setIfInBounds_toArray, List.set_cons_zero, List.set_cons_succ, i64_w, i32_w]
                                  rfl
                                refine pure_ (i := 3) (N := some 53) (v := ?_) (a' := ?_) #[true, false, true, true, false, false, false, false, false] rfl rfl (any_of HT_.out (by kernel_rfl)) (fun _ _ _ h => h) (Or.inl ⟨by rfl, ?_⟩) ?_ ?_
                                rotate_left
                                · intro w'
                                  go_simp
                                  with_reducible rfl
                                rotate_left
                                · simp only [Act.put, List.setIfInBounds_toArray, List.set_cons_zero, List.set_cons_succ, i64_w, i32_w]
                                  rfl
                                refine pure_ (i := 4) (N := some 54) (v := ?_) (a' := ?_) #[true, false, true, true, true, false, false, false, false] rfl rfl (any_of HT_.out (by kernel_rfl)) (fun _ _ _ h => h) (Or.inl ⟨by rfl, ?_⟩) ?_ ?_
                                rotate_left
                                · intro w'
                                  go_simp
                                  with_reducible rfl
                                rotate_left
                                · simp only [Act.put, List.setIfInBounds_toArray, List.set_cons_zero, List.set_cons_succ, i64_w, i32_w]
                                  rfl
                                refine pure_ (i := 5) (N := some 55) (v := ?_) (a' := ?_) #[true, false, true, true, true, true, false, false, false] rfl rfl (any_of HT_.out (by kernel_rfl)) (fun _ _ _ h => h) (Or.inl ⟨by rfl, ?_⟩) ?_ ?_
                                rotate_left
                                · intro w'
                                  go_simp
                                  with_reducible rfl
                                rotate_left
                                · simp only [Act.put, List.setIfInBounds_toArray, List.set_cons_zero, List.set_cons_succ, i64_w, i32_w]
                                  rfl
                                refine pure_ (i := 6) (N := some 56) (v := ?_) (a' := ?_) #[true, false, true, true, true, true, true, false, false] rfl rfl (any_of HT_.out (by kernel_rfl)) (fun _ _ _ h => h) (Or.inl ⟨by rfl, ?_⟩) ?_ ?_
                                rotate_left
                                · intro w'
                                  go_simp
                                  with_reducible rfl
                                rotate_left
                                · simp only [Act.put, List.setIfInBounds_toArray, List.set_cons_zero, List.set_cons_succ, i64_w, i32_w]
                                  rfl
                                refine take_ (i := 1) (N := some 51) (v := ?_) (a' := ?_) #[true, true, true, true, true, true, true, false, false] rfl rfl (take_ofW HT_.out HW_.out (by kernel_rfl)) (fun _ _ _ h => h) (Or.inl ⟨by rfl, ?_⟩) hHeld ?_ ?_
                                rotate_left
                                · rintro w' ⟨s0, s1, s2, s3⟩
                                  go_simp
                                  with_reducible rfl
                                rotate_left
                                · simp only [Act.put, List.setIfInBounds_toArray, List.set_cons_zero, List.set_cons_succ, i64_w, i32_w]
                                  rfl
                                refine take_ (i := 7) (N := some 57) (v := ?_) (a' := ?_) #[true, true, true, true, true, true, true, true, false] rfl rfl (take_ofW HT_.out HW_.out (by kernel_rfl)) (fun _ _ _ h => h) (Or.inl ⟨by rfl, ?_⟩) hHeld ?_ ?_
                                rotate_left
                                · rintro w' ⟨s0, s1, s2, s3⟩
                                  go_simp
                                  with_reducible rfl
                                rotate_left
                                · simp only [Act.put, List.setIfInBounds_toArray, List.set_cons_zero, List.set_cons_succ, i64_w, i32_w]
                                  rfl
                                refine pure_ (i := 8) (N := some 58) (v := ?_) (a' := ?_) #[true, true, true, true, true, true, true, true, true] rfl rfl (any_of HT_.out (by kernel_rfl)) (fun _ _ _ h => h) (Or.inl ⟨by rfl, ?_⟩) ?_ ?_
                                rotate_left
                                · intro w'
                                  go_simp
                                  with_reducible rfl
                                rotate_left
                                · simp only [Act.put, List.setIfInBounds_toArray, List.set_cons_zero, List.set_cons_succ, i64_w, i32_w]
                                  rfl
                                refine done_ (done_of HT_.out (by kernel_rfl)) ?_
                                try go_wp2
                                have n0_ := Aside0.mk (Kd.R_drew HO_6.out)
                                have n1_ := Aside0.mk (blk_drew BK103.out)
                                have n2_ := Aside0.mk (below_drew1 HB.out)
                                clear HO_6
                                clear BK103
                                clear HB
                                have HO_6 := n0_
                                have BK103 := n1_
                                have HB := n2_
                                clear n0_ n1_ n2_
                                obtain ⟨Ao62, co62, eo62⟩ := Kd.R_slice HO_6.out
                                (first | subst eo62 | (injection eo62 with f1_ f2_ f3_; have f4_ := f1_.symm; have f5_ := f3_.symm; clear f1_ f2_ f3_; subst f4_; subst f5_))
                                have q63 : ((ji47) : Int) ≤ ((t104.length : Int) : Int) := of_decide_eq_true (by first | (with_reducible assumption) | assumption)
                                obtain ⟨i063, hi063, _, hsz63, _⟩ := info_parts info24
                                have hroom63 : t104.length ≤ co62 := (Kd.R_reads' HO_6.out).2.1
                                have hC63 : Kd.C k24 _ Ao62 t104.length t104 := (Kd.R_reads' HO_6.out).2.2
                                have hcut63 := cut_to (P := Try.prog) 22 24 .i64 Try.underlying22 hi063 Ao62 t104.length co62 (ji47) (of_decide_eq_true (by first | (with_reducible assumption) | assumption)) q63 hroom63
                                have hr63 := Kd.C_take (m := ((ji47) : Int).toNat) hC63 (by omega)
                                have hy63 : y126.length = ((ji47) : Int).toNat := (by rw [Ny126.out, List.length_take]; omega)
                                rw [← Ny126.out] at hr63
                                rw [← hy63] at hcut63
                                have HR129 := Aside0.mk hr63
                                have HC129 := Aside0.mk (show y126.length ≤ co62 from by omega)
                                clear hr63 hC63 hroom63 hi063 hsz63
                                have KY63 := Aside0.mk hy63
                                clear hy63
                                have KL63 := Aside0.mk (show ((ji47) : Int).toNat ≤ t104.length from by omega)
                                replace q63 := eq_true q63
                                have q64 : ((ji47) : Int) ≤ ((l0.length : Int) : Int) := of_decide_eq_true (by first | (with_reducible assumption) | assumption)
                                obtain ⟨i064, hi064, _, hsz64, _⟩ := info_parts info24
                                have hroom64 : l0.length ≤ c0 := HC0.out
                                have hC64 : Kd.C k24 _ (some ad125) l0.length l0 := HR0.out
                                have hcut64 := cut_to (P := Try.prog) 22 24 .i64 Try.underlying22 hi064 (some ad125) l0.length c0 (ji47) (of_decide_eq_true (by first | (with_reducible assumption) | assumption)) q64 hroom64
                                have hr64 := Kd.C_take (m := ((ji47) : Int).toNat) hC64 (by omega)
                                have hy64 : y130.length = ((ji47) : Int).toNat := (by rw [Ny130.out, List.length_take]; omega)
                                rw [← Ny130.out] at hr64
                                rw [← hy64] at hcut64
                                have HR133 := Aside0.mk hr64
                                have HC133 := Aside0.mk (show y130.length ≤ c0 from by omega)
                                clear hr64 hC64 hroom64 hi064 hsz64
                                have KY64 := Aside0.mk hy64
                                clear hy64
                                replace q64 := eq_true q64
                                have p135 : 0 ≤ ((ji47) : Int) := of_decide_eq_true (by first | (with_reducible assumption) | assumption)
                                have q135 : (ji47) < (t104.length : Int) := of_decide_eq_true (by first | (with_reducible assumption) | assumption)
                                obtain ⟨ad135, e135, hx135_0, hx135_1⟩ := at_T24 (Kd.R_reads' HO_6.out).2.2 (ji47) p135 q135
                                cases e135
                                replace p135 := eq_true p135
                                replace q135 := eq_true q135
                                have p136 : 0 ≤ ((ji47) : Int) := of_decide_eq_true (by first | (with_reducible assumption) | assumption)
                                have q136 : (ji47) < (l0.length : Int) := of_decide_eq_true (by first | (with_reducible assumption) | assumption)
                                obtain ⟨ad136, e136, hx136_0, hx136_1⟩ := at_T24 HR0.out (ji47) p136 q136
                                have hw136_1 := hx136_1
                                have hw136_0 := hx136_0
                                obtain rfl : ad125 = ad136 := (by injection e136)
                                replace hx136_0 := (HB.out.cell (World.block_lt_of_cell? w _ hx136_0)).trans hx136_0
                                replace hx136_1 := (HB.out.cell (World.block_lt_of_cell? w _ hx136_1)).trans hx136_1
                                replace p136 := eq_true p136
                                replace q136 := eq_true q136
                                refine start_ (n := 33) (S := fun w' => w'.cell? ⟨gb103, 0, none⟩ = some (.int .i64 a1_0) ∧ w'.cell? ⟨gb103, 1, none⟩ = some (.int .i64 a1_1) ∧ w'.cell? (ad135.add (((ji47)).toNat * 2)) = some (.int .i64 ((rd_T24 t104 (ji47)).f0)) ∧ w'.cell? ⟨(ad135.add (((ji47)).toNat * 2)).block, (ad135.add (((ji47)).toNat * 2)).off + 1, none⟩ = some (.int .i64 ((rd_T24 t104 (ji47)).f1)) ∧ w'.cell? (ad125.add (((ji47)).toNat * 2)) = some (.int .i64 ((rd_T24 l0 (ji47)).f0)) ∧ w'.cell? ⟨(ad125.add (((ji47)).toNat * 2)).block, (ad125.add (((ji47)).toNat * 2)).off + 1, none⟩ = some (.int .i64 ((rd_T24 l0 (ji47)).f1))) (ds := []) #[false, false, false, false, false, false, false, false, false, false, false, false, false, false, false, false, false, false, false, false, false, false, false, false, false, false, false, false, false, false, false, false, false] (by kernel_rfl) rfl rfl ⟨(blk_cell BK103.out 0).trans rfl, (blk_cell BK103.out 1).trans rfl, hx135_0, hx135_1, ((HB.out.cell (World.block_lt_of_cell? w _ hw136_0)).trans hw136_0), ((HB.out.cell (World.block_lt_of_cell? w _ hw136_1)).trans hw136_1)⟩ (fun hHeld => ?_); refine with_tabW laws_FnAppendRange.tab15 laws_FnAppendRange.bits15 (fun HT_ HW_ => ?_)
                                generalize w60.drew = w61 at HO_6 BK103 HB HR129 HR133 hx135_0 hx135_1 hx136_0 hx136_1 hHeld ⊢
                                refine pure_ (i := 0) (N := some 59) (v := ?_) (a' := ?_) #[true, false, false, false, false, false, false, false, false, false, false, false, false, false, false, false, false, false, false, false, false, false, false, false, false, false, false, false, false, false, false, false, false] rfl rfl (any_of HT_.out (by kernel_rfl)) (fun _ _ _ h => h) (Or.inl ⟨by rfl, ?_⟩) ?_ ?_
                                rotate_left
                                · intro w'
                                  go_simp
                                  with_reducible rfl
                                rotate_left
                                · simp only [Act.put, List.setIfInBounds_toArray, List.set_cons_zero, List.set_cons_succ, i64_w, i32_w]
                                  rfl
                                refine pure_ (i := 1) (N := some 60) (v := ?_) (a' := ?_) #[true, true, false, false, false, false, false, false, false, false, false, false, false, false, false, false, false, false, false, false, false, false, false, false, false, false, false, false, false, false, false, false, false] rfl rfl (any_of HT_.out (by kernel_rfl)) (fun _ _ _ h => h) (Or.inl ⟨by rfl, ?_⟩) ?_ ?_
                                rotate_left
                                · intro w'
                                  go_simp
                                  with_reducible rfl
                                rotate_left
                                · simp only [Act.put, List.setIfInBounds_toArray, List.set_cons_zero, List.set_cons_succ, i64_w, i32_w]
                                  rfl
                                refine pure_ (i := 2) (N := some 61) (v := ?_) (a' := ?_) #[true, true, true, false, false, false, false, false, false, false, false, false, false, false, false, false, false, false, false, false, false, false, false, false, false, false, false, false, false, false, false, false, false] rfl rfl (any_of HT_.out (by kernel_rfl)) (fun _ _ _ h => h) (Or.inl ⟨by rfl, ?_⟩) ?_ ?_
                                rotate_left
                                · intro w'
                                  go_simp
                                  with_reducible rfl
                                rotate_left
                                · simp only [Act.put, List.setIfInBounds_toArray, List.set_cons_zero, List.set_cons_succ, i64_w, i32_w]
                                  rfl
                                refine pure_ (i := 3) (N := some 62) (v := ?_) (a' := ?_) #[true, true, true, true, false, false, false, false, false, false, false, false, false, false, false, false, false, false, false, false, false, false, false, false, false, false, false, false, false, false, false, false, false] rfl rfl (any_of HT_.out (by kernel_rfl)) (fun _ _ _ h => h) (Or.inl ⟨by rfl, ?_⟩) ?_ ?_
                                rotate_left
                                · intro w'
                                  go_simp
                                  with_reducible rfl
                                rotate_left
                                · simp only [Act.put, List.setIfInBounds_toArray, List.set_cons_zero, List.set_cons_succ, i64_w, i32_w]
                                  rfl
                                refine pure_ (i := 4) (N := some 63) (v := ?_) (a' := ?_) #[true, true, true, true, true, false, false, false, false, false, false, false, false, false, false, false, false, false, false, false, false, false, false, false, false, false, false, false, false, false, false, false, false] rfl rfl (any_of HT_.out (by kernel_rfl)) (fun _ _ _ h => h) (Or.inl ⟨by rfl, ?_⟩) ?_ ?_
                                rotate_left
                                · intro w'
                                  go_simp
                                  with_reducible rfl
                                rotate_left
                                · simp only [Act.put, List.setIfInBounds_toArray, List.set_cons_zero, List.set_cons_succ, i64_w, i32_w]
                                  rfl
                                refine pure_ (i := 5) (N := some 64) (v := ?_) (a' := ?_) #[true, true, true, true, true, true, false, false, false, false, false, false, false, false, false, false, false, false, false, false, false, false, false, false, false, false, false, false, false, false, false, false, false] rfl rfl (any_of HT_.out (by kernel_rfl)) (fun _ _ _ h => h) (Or.inl ⟨by rfl, ?_⟩) ?_ ?_
                                rotate_left
                                · intro w'
                                  go_simp
                                  with_reducible rfl
                                rotate_left
                                · simp only [Act.put, List.setIfInBounds_toArray, List.set_cons_zero, List.set_cons_succ, i64_w, i32_w]
                                  rfl
                                refine pure_ (i := 6) (N := some 65) (v := ?_) (a' := ?_) #[true, true, true, true, true, true, true, false, false, false, false, false, false, false, false, false, false, false, false, false, false, false, false, false, false, false, false, false, false, false, false, false, false] rfl rfl (any_of HT_.out (by kernel_rfl)) (fun _ _ _ h => h) (Or.inl ⟨by rfl, ?_⟩) ?_ ?_
                                rotate_left
                                · intro w'
                                  go_simp
                                  with_reducible rfl
                                rotate_left
                                · simp only [Act.put, List.setIfInBounds_toArray, List.set_cons_zero, List.set_cons_succ, i64_w, i32_w]
                                  rfl
                                refine pure_ (i := 7) (N := some 66) (v := ?_) (a' := ?_) #[true, true, true, true, true, true, true, true, false, false, false, false, false, false, false, false, false, false, false, false, false, false, false, false, false, false, false, false, false, false, false, false, false] rfl rfl (any_of HT_.out (by kernel_rfl)) (fun _ _ _ h => h) (Or.inl ⟨by rfl, ?_⟩) ?_ ?_
                                rotate_left
                                · intro w'
                                  go_simp
                                  with_reducible rfl
                                rotate_left
                                · simp only [Act.put, List.setIfInBounds_toArray, List.set_cons_zero, List.set_cons_succ, i64_w, i32_w]
                                  rfl
                                refine pure_ (i := 8) (N := some 67) (v := ?_) (a' := ?_) #[true, true, true, true, true, true, true, true, true, false, false, false, false, false, false, false, false, false, false, false, false, false, false, false, false, false, false, false, false, false, false, false, false] rfl rfl (any_of HT_.out (by kernel_rfl)) (fun _ _ _ h => h) (Or.inl ⟨by rfl, ?_⟩) ?_ ?_
                                rotate_left
                                · intro w'
                                  go_simp
                                  with_reducible rfl
                                rotate_left
                                · simp only [Act.put, List.setIfInBounds_toArray, List.set_cons_zero, List.set_cons_succ, i64_w, i32_w]
                                  rfl
                                refine pure_ (i := 9) (N := some 68) (v := ?_) (a' := ?_) #[true, true, true, true, true, true, true, true, true, true, false, false, false, false, false, false, false, false, false, false, false, false, false, false, false, false, false, false, false, false, false, false, false] rfl rfl (any_of HT_.out (by kernel_rfl)) (fun _ _ _ h => h) (Or.inl ⟨by rfl, ?_⟩) ?_ ?_
                                rotate_left
                                · intro w'
                                  go_simp
                                  with_reducible rfl
                                rotate_left
                                · simp only [Act.put, List.setIfInBounds_toArray, List.set_cons_zero, List.set_cons_succ, i64_w, i32_w]
                                  rfl
                                refine pure_ (i := 10) (N := some 69) (v := ?_) (a' := ?_) #[true, true, true, true, true, true, true, true, true, true, true, false, false, false, false, false, false, false, false, false, false, false, false, false, false, false, false, false, false, false, false, false, false] rfl rfl (any_of HT_.out (by kernel_rfl)) (fun _ _ _ h => h) (Or.inl ⟨by rfl, ?_⟩) ?_ ?_
                                rotate_left
                                · intro w'
                                  go_simp
                                  with_reducible rfl
                                rotate_left
                                · simp only [Act.put, List.setIfInBounds_toArray, List.set_cons_zero, List.set_cons_succ, i64_w, i32_w]
                                  rfl
                                refine pure_ (i := 11) (N := some 70) (v := ?_) (a' := ?_) #[true, true, true, true, true, true, true, true, true, true, true, true, false, false, false, false, false, false, false, false, false, false, false, false, false, false, false, false, false, false, false, false, false] rfl rfl (any_of HT_.out (by kernel_rfl)) (fun _ _ _ h => h) (Or.inl ⟨by rfl, ?_⟩) ?_ ?_
                                rotate_left
                                · intro w'
                                  go_simp
                                  with_reducible rfl
                                rotate_left
                                · simp only [Act.put, List.setIfInBounds_toArray, List.set_cons_zero, List.set_cons_succ, i64_w, i32_w]
                                  rfl
                                refine pure_ (i := 12) (N := some 71) (v := ?_) (a' := ?_) #[true, true, true, true, true, true, true, true, true, true, true, true, true, false, false, false, false, false, false, false, false, false, false, false, false, false, false, false, false, false, false, false, false] rfl rfl (any_of HT_.out (by kernel_rfl)) (fun _ _ _ h => h) (Or.inl ⟨by rfl, ?_⟩) ?_ ?_
                                rotate_left
                                · intro w'
                                  go_simp
                                  with_reducible rfl
                                rotate_left
                                · simp only [Act.put, List.setIfInBounds_toArray, List.set_cons_zero, List.set_cons_succ, i64_w, i32_w]
                                  rfl
                                refine one_ (i := 13) (N := some 72) #[true, true, true, true, true, true, true, true, true, true, true, true, true, true, false, false, false, false, false, false, false, false, false, false, false, false, false, false, false, false, false, false, false] rfl rfl (one_of HT_.out (by kernel_rfl)) (by decide) (fun K hK => ?_)
                                refine goes_ Try.func12 (by kernel_rfl) rfl #[.slice (some ad135) y126.length co62, .slice (some ad125) y130.length c0] (by rfl) rfl rfl (by (try simp only [List.map_toArray, List.map_cons, List.map_nil]); first | done | rfl | (simp only [List.length_drop, List.length_take]; rfl)) ?_
                                with_reducible refine (laws_sameRanges.calls kj18 _ _ y126 _ _ y130 true _ ?side1 ?side2 ?side3 ?side4 A57.out).mono ?_
                                (case side1 => repeat (first | exact (by repeat (first | (with_reducible exact HR129.out) | (with_reducible refine Kd.C_alloc ?_ _) | (with_reducible refine Kd.C_drewN ?_ _) | (with_reducible refine Kd.C_drew ?_) | exact HR129.out)) | (with_reducible refine Kd.C_alloc ?_ _) | (with_reducible refine Kd.C_drewN ?_ _) | (with_reducible refine Kd.C_drew ?_)))
                                (case side2 => exact HC129.out)
                                (case side3 => repeat (first | exact (Kd.C_below HR133.out HB.out) | (with_reducible refine Kd.C_alloc ?_ _) | (with_reducible refine Kd.C_drewN ?_ _) | (with_reducible refine Kd.C_drew ?_)))
                                (case side4 => exact HC133.out)
                                rintro e w' ⟨rfl, ⟨nd, rfl⟩⟩
                                refine ⟨_, rfl, ?_⟩
                                refine hK.out _ _ ⟨(blk_cell BK103.out 0).trans rfl, (blk_cell BK103.out 1).trans rfl, hHeld.2.2.1, hHeld.2.2.2.1, ((HB.out.cell (World.block_lt_of_cell? w _ hw136_0)).trans hw136_0), ((HB.out.cell (World.block_lt_of_cell? w _ hw136_1)).trans hw136_1)⟩ (fun hHeld => ?_)
                                clear hK K
                                refine norm_ (a' := ?_) ?_ ?_
                                rotate_left
                                · show Act.put _ (some 72) _ = _
                                  simp only [Act.put, List.setIfInBounds_toArray, List.set_cons_zero, List.set_cons_succ, i64_w, i32_w]
                                  rfl
                                refine pure_ (i := 14) (N := some 73) (v := ?_) (a' := ?_) #[true, true, true, true, true, true, true, true, true, true, true, true, true, true, true, false, false, false, false, false, false, false, false, false, false, false, false, false, false, false, false, false, false] rfl rfl (any_of HT_.out (by kernel_rfl)) (fun _ _ _ h => h) (Or.inl ⟨by rfl, ?_⟩) ?_ ?_
                                rotate_left
                                · intro w'
                                  go_simp
                                  with_reducible rfl
                                rotate_left
                                · simp only [Act.put, List.setIfInBounds_toArray, List.set_cons_zero, List.set_cons_succ, i64_w, i32_w]
                                  rfl
                                refine pure_ (i := 15) (N := some 74) (v := ?_) (a' := ?_) #[true, true, true, true, true, true, true, true, true, true, true, true, true, true, true, true, false, false, false, false, false, false, false, false, false, false, false, false, false, false, false, false, false] rfl rfl (any_of HT_.out (by kernel_rfl)) (fun _ _ _ h => h) (Or.inl ⟨by rfl, ?_⟩) ?_ ?_
                                rotate_left
                                · intro w'
                                  go_simp
                                  with_reducible rfl
                                rotate_left
                                · simp only [Act.put, List.setIfInBounds_toArray, List.set_cons_zero, List.set_cons_succ, i64_w, i32_w]
                                  rfl
                                refine pure_ (i := 16) (N := some 75) (v := ?_) (a' := ?_) #[true, true, true, true, true, true, true, true, true, true, true, true, true, true, true, true, true, false, false, false, false, false, false, false, false, false, false, false, false, false, false, false, false] rfl rfl (any_of HT_.out (by kernel_rfl)) (fun _ _ _ h => h) (Or.inl ⟨by rfl, ?_⟩) ?_ ?_
                                rotate_left
                                · intro w'
                                  go_simp
                                  with_reducible rfl
                                rotate_left
                                · simp only [Act.put, List.setIfInBounds_toArray, List.set_cons_zero, List.set_cons_succ, i64_w, i32_w]
                                  rfl
                                refine pure_ (i := 17) (N := some 76) (v := ?_) (a' := ?_) #[true, true, true, true, true, true, true, true, true, true, true, true, true, true, true, true, true, true, false, false, false, false, false, false, false, false, false, false, false, false, false, false, false] rfl rfl (any_of HT_.out (by kernel_rfl)) (fun _ _ _ h => h) (Or.inl ⟨by rfl, ?_⟩) ?_ ?_
                                rotate_left
                                · intro w'
                                  go_simp
                                  with_reducible rfl
                                rotate_left
                                · simp only [Act.put, List.setIfInBounds_toArray, List.set_cons_zero, List.set_cons_succ, i64_w, i32_w]
                                  rfl
                                refine pure_ (i := 18) (N := some 77) (v := ?_) (a' := ?_) #[true, true, true, true, true, true, true, true, true, true, true, true, true, true, true, true, true, true, true, false, false, false, false, false, false, false, false, false, false, false, false, false, false] rfl rfl (any_of HT_.out (by kernel_rfl)) (fun _ _ _ h => h) (Or.inl ⟨by rfl, ?_⟩) ?_ ?_
                                rotate_left
                                · intro w'
                                  go_simp
                                  with_reducible rfl
                                rotate_left
                                · simp only [Act.put, List.setIfInBounds_toArray, List.set_cons_zero, List.set_cons_succ, i64_w, i32_w]
                                  rfl
                                refine pure_ (i := 19) (N := some 78) (v := ?_) (a' := ?_) #[true, true, true, true, true, true, true, true, true, true, true, true, true, true, true, true, true, true, true, true, false, false, false, false, false, false, false, false, false, false, false, false, false] rfl rfl (any_of HT_.out (by kernel_rfl)) (fun _ _ _ h => h) (Or.inl ⟨by rfl, ?_⟩) ?_ ?_
                                rotate_left
                                · intro w'
                                  go_simp
                                  with_reducible rfl
                                rotate_left
                                · simp only [Act.put, List.setIfInBounds_toArray, List.set_cons_zero, List.set_cons_succ, i64_w, i32_w]
                                  rfl
                                refine pure_ (i := 21) (N := some 80) (v := ?_) (a' := ?_) #[true, true, true, true, true, true, true, true, true, true, true, true, true, true, true, true, true, true, true, true, false, true, false, false, false, false, false, false, false, false, false, false, false] rfl rfl (any_of HT_.out (by kernel_rfl)) (fun _ _ _ h => h) (Or.inl ⟨by rfl, ?_⟩) ?_ ?_
                                rotate_left
                                · intro w'
                                  go_simp
                                  with_reducible rfl
                                rotate_left
                                · simp only [Act.put, List.setIfInBounds_toArray, List.set_cons_zero, List.set_cons_succ, i64_w, i32_w]
                                  rfl
                                refine pure_ (i := 22) (N := some 81) (v := ?_) (a' := ?_) #[true, true, true, true, true, true, true, true, true, true, true, true, true, true, true, true, true, true, true, true, false, true, true, false, false, false, false, false, false, false, false, false, false] rfl rfl (any_of HT_.out (by kernel_rfl)) (fun _ _ _ h => h) (Or.inl ⟨by rfl, ?_⟩) ?_ ?_
                                rotate_left
                                · intro w'
                                  go_simp
                                  with_reducible rfl
                                rotate_left
                                · simp only [Act.put, List.setIfInBounds_toArray, List.set_cons_zero, List.set_cons_succ, i64_w, i32_w]
                                  rfl
                                refine pure_ (i := 23) (N := some 82) (v := ?_) (a' := ?_) #[true, true, true, true, true, true, true, true, true, true, true, true, true, true, true, true, true, true, true, true, false, true, true, true, false, false, false, false, false, false, false, false, false] rfl rfl (any_of HT_.out (by kernel_rfl)) (fun _ _ _ h => h) (Or.inl ⟨by rfl, ?_⟩) ?_ ?_
                                rotate_left
                                · intro w'
                                  go_simp
                                  with_reducible rfl
                                rotate_left
                                · simp only [Act.put, List.setIfInBounds_toArray, List.set_cons_zero, List.set_cons_succ, i64_w, i32_w]
                                  rfl
                                refine pure_ (i := 24) (N := some 83) (v := ?_) (a' := ?_) #[true, true, true, true, true, true, true, true, true, true, true, true, true, true, true, true, true, true, true, true, false, true, true, true, true, false, false, false, false, false, false, false, false] rfl rfl (any_of HT_.out (by kernel_rfl)) (fun _ _ _ h => h) (Or.inl ⟨by rfl, ?_⟩) ?_ ?_
                                rotate_left
                                · intro w'
                                  go_simp
                                  with_reducible rfl
                                rotate_left
                                · simp only [Act.put, List.setIfInBounds_toArray, List.set_cons_zero, List.set_cons_succ, i64_w, i32_w]
                                  rfl
                                refine pure_ (i := 25) (N := some 84) (v := ?_) (a' := ?_) #[true, true, true, true, true, true, true, true, true, true, true, true, true, true, true, true, true, true, true, true, false, true, true, true, true, true, false, false, false, false, false, false, false] rfl rfl (any_of HT_.out (by kernel_rfl)) (fun _ _ _ h => h) (Or.inl ⟨by rfl, ?_⟩) ?_ ?_
                                rotate_left
                                · intro w'
                                  go_simp
                                  with_reducible rfl
                                rotate_left
                                · simp only [Act.put, List.setIfInBounds_toArray, List.set_cons_zero, List.set_cons_succ, i64_w, i32_w]
                                  rfl
                                refine pure_ (i := 27) (N := some 86) (v := ?_) (a' := ?_) #[true, true, true, true, true, true, true, true, true, true, true, true, true, true, true, true, true, true, true, true, false, true, true, true, true, true, false, true, false, false, false, false, false] rfl rfl (any_of HT_.out (by kernel_rfl)) (fun _ _ _ h => h) (Or.inl ⟨by rfl, ?_⟩) ?_ ?_
                                rotate_left
                                · intro w'
                                  go_simp
                                  with_reducible rfl
                                rotate_left
                                · simp only [Act.put, List.setIfInBounds_toArray, List.set_cons_zero, List.set_cons_succ, i64_w, i32_w]
                                  rfl
                                refine take_ (i := 20) (N := some 79) (v := ?_) (a' := ?_) #[true, true, true, true, true, true, true, true, true, true, true, true, true, true, true, true, true, true, true, true, true, true, true, true, true, true, false, true, false, false, false, false, false] rfl rfl (take_ofW HT_.out HW_.out (by kernel_rfl)) (fun _ _ _ h => h) (Or.inl ⟨by rfl, ?_⟩) hHeld ?_ ?_
                                rotate_left
                                · rintro w' ⟨s0, s1, s2, s3, s4, s5⟩
                                  go_simp
                                  with_reducible rfl
                                rotate_left
                                · simp only [Act.put, List.setIfInBounds_toArray, List.set_cons_zero, List.set_cons_succ, i64_w, i32_w]
                                  rfl
                                refine take_ (i := 26) (N := some 85) (v := ?_) (a' := ?_) #[true, true, true, true, true, true, true, true, true, true, true, true, true, true, true, true, true, true, true, true, true, true, true, true, true, true, true, true, false, false, false, false, false] rfl rfl (take_ofW HT_.out HW_.out (by kernel_rfl)) (fun _ _ _ h => h) (Or.inl ⟨by rfl, ?_⟩) hHeld ?_ ?_
                                rotate_left
                                · rintro w' ⟨s0, s1, s2, s3, s4, s5⟩
                                  go_simp
                                  with_reducible rfl
                                rotate_left
                                · simp only [Act.put, List.setIfInBounds_toArray, List.set_cons_zero, List.set_cons_succ, i64_w, i32_w]
                                  rfl
                                refine take_ (i := 28) (N := some 87) (v := ?_) (a' := ?_) #[true, true, true, true, true, true, true, true, true, true, true, true, true, true, true, true, true, true, true, true, true, true, true, true, true, true, true, true, true, false, false, false, false] rfl rfl (take_ofW HT_.out HW_.out (by kernel_rfl)) (fun _ _ _ h => h) (Or.inl ⟨by rfl, ?_⟩) hHeld ?_ ?_
                                rotate_left
                                · rintro w' ⟨s0, s1, s2, s3, s4, s5⟩
                                  go_simp
                                  with_reducible rfl
                                rotate_left
                                · simp only [Act.put, List.setIfInBounds_toArray, List.set_cons_zero, List.set_cons_succ, i64_w, i32_w]
                                  rfl
                                refine pure_ (i := 29) (N := some 88) (v := ?_) (a' := ?_) #[true, true, true, true, true, true, true, true, true, true, true, true, true, true, true, true, true, true, true, true, true, true, true, true, true, true, true, true, true, true, false, false, false] rfl rfl (any_of HT_.out (by kernel_rfl)) (fun _ _ _ h => h) (Or.inl ⟨by rfl, ?_⟩) ?_ ?_
                                rotate_left
                                · intro w'
                                  go_simp
                                  with_reducible rfl
                                rotate_left
                                · simp only [Act.put, List.setIfInBounds_toArray, List.set_cons_zero, List.set_cons_succ, i64_w, i32_w]
                                  rfl
                                refine pure_ (i := 30) (N := some 89) (v := ?_) (a' := ?_) #[true, true, true, true, true, true, true, true, true, true, true, true, true, true, true, true, true, true, true, true, true, true, true, true, true, true, true, true, true, true, true, false, false] rfl rfl (any_of HT_.out (by kernel_rfl)) (fun _ _ _ h => h) (Or.inl ⟨by rfl, ?_⟩) ?_ ?_
                                rotate_left
                                · intro w'
                                  go_simp
                                  with_reducible rfl
                                rotate_left
                                · simp only [Act.put, List.setIfInBounds_toArray, List.set_cons_zero, List.set_cons_succ, i64_w, i32_w]
                                  rfl
                                refine pure_ (i := 31) (N := some 90) (v := ?_) (a' := ?_) #[true, true, true, true, true, true, true, true, true, true, true, true, true, true, true, true, true, true, true, true, true, true, true, true, true, true, true, true, true, true, true, true, false] rfl rfl (any_of HT_.out (by kernel_rfl)) (fun _ _ _ h => h) (Or.inl ⟨by rfl, ?_⟩) ?_ ?_
                                rotate_left
                                · intro w'
                                  go_simp
                                  with_reducible rfl
                                rotate_left
                                · simp only [Act.put, List.setIfInBounds_toArray, List.set_cons_zero, List.set_cons_succ, i64_w, i32_w]
                                  rfl
                                refine pure_ (i := 32) (N := some 4) (v := ?_) (a' := ?_) #[true, true, true, true, true, true, true, true, true, true, true, true, true, true, true, true, true, true, true, true, true, true, true, true, true, true, true, true, true, true, true, true, true] rfl rfl (any_of HT_.out (by kernel_rfl)) (fun _ _ _ h => h) (Or.inl ⟨by rfl, ?_⟩) ?_ ?_
                                rotate_left
                                · intro w'
                                  go_simp
                                  with_reducible rfl
                                rotate_left
                                · simp only [Act.put, List.setIfInBounds_toArray, List.set_cons_zero, List.set_cons_succ, i64_w, i32_w]
                                  rfl
                                refine done_ (done_of HT_.out (by kernel_rfl)) ?_
                                try go_wp2
                                go_ret
                                exact ⟨by first | rfl | (simp [errW_none, errW_some] <;> rfl) | (simp only [← hji47]; first | rfl | (simp [errW_none, errW_some] <;> rfl)) | (simp [*, errW_none, errW_some] <;> rfl), by repeat (first | (with_reducible first | exact HB.out | apply below_alloc | apply pw_below_drewN | apply below_drew1 | refine below_set ?_ GE103.out) | exact HB.out)⟩
                              · rw [if_neg c59] at H
                                exact absurd H (by simp)
                            · replace c58 := Bool.eq_false_iff.mpr c58
                              subst c58
                              have H1 : (some false) = some r := by rw [if_neg (show ¬ (false = true) by decide)] at H; exact H
                              clear H
                              have H := H1
                              clear H1
                              obtain rfl := Option.some.inj H
                              try go_wp2
                              have n0_ := Aside0.mk (Kd.R_drew HO_6.out)
                              have n1_ := Aside0.mk (blk_drew BK103.out)
                              have n2_ := Aside0.mk (below_drew1 HB.out)
                              clear HO_6
                              clear BK103
                              clear HB
                              have HO_6 := n0_
                              have BK103 := n1_
                              have HB := n2_
                              clear n0_ n1_ n2_
                              have p125 : 0 ≤ ((ji47) : Int) := of_decide_eq_true (by first | (with_reducible assumption) | assumption)
                              have q125 : (ji47) < (l0.length : Int) := of_decide_eq_true (by first | (with_reducible assumption) | assumption)
                              obtain ⟨ad125, e125, hx125_0, hx125_1⟩ := at_T24 HR0.out (ji47) p125 q125
                              have hw125_1 := hx125_1
                              have hw125_0 := hx125_0
                              cases e125
                              replace hx125_0 := (HB.out.cell (World.block_lt_of_cell? w _ hx125_0)).trans hx125_0
                              replace hx125_1 := (HB.out.cell (World.block_lt_of_cell? w _ hx125_1)).trans hx125_1
                              replace p125 := eq_true p125
                              replace q125 := eq_true q125
                              refine start_ (n := 9) (S := fun w' => w'.cell? ⟨gb103, 0, none⟩ = some (.int .i64 a1_0) ∧ w'.cell? ⟨gb103, 1, none⟩ = some (.int .i64 a1_1) ∧ w'.cell? (ad125.add (((ji47)).toNat * 2)) = some (.int .i64 ((rd_T24 l0 (ji47)).f0)) ∧ w'.cell? ⟨(ad125.add (((ji47)).toNat * 2)).block, (ad125.add (((ji47)).toNat * 2)).off + 1, none⟩ = some (.int .i64 ((rd_T24 l0 (ji47)).f1))) (ds := []) #[false, false, false, false, false, false, false, false, false] (by kernel_rfl) rfl rfl ⟨(blk_cell BK103.out 0).trans rfl, (blk_cell BK103.out 1).trans rfl, ((HB.out.cell (World.block_lt_of_cell? w _ hw125_0)).trans hw125_0), ((HB.out.cell (World.block_lt_of_cell? w _ hw125_1)).trans hw125_1)⟩ (fun hHeld => ?_); refine with_tabW laws_FnAppendRange.tab13 laws_FnAppendRange.bits13 (fun HT_ HW_ => ?_)
                              generalize wc.drew = w65 at HO_6 BK103 HB hx125_0 hx125_1 hHeld ⊢
                              refine pure_ (i := 0) (N := some 50) (v := ?_) (a' := ?_) #[true, false, false, false, false, false, false, false, false] rfl rfl (any_of HT_.out (by kernel_rfl)) (fun _ _ _ h => h) (Or.inl ⟨by rfl, ?_⟩) ?_ ?_
                              rotate_left
                              · intro w'
                                go_simp
                                with_reducible rfl
                              rotate_left
                              · simp only [Act.put, List.setIfInBounds_toArray, List.set_cons_zero, List.set_cons_succ, i64_w, i32_w]
                                rfl
                              refine pure_ (i := 2) (N := some 52) (v := ?_) (a' := ?_) #[true, false, true, false, false, false, false, false, false] rfl rfl (any_of HT_.out (by kernel_rfl)) (fun _ _ _ h => h) (Or.inl ⟨by rfl, ?_⟩) ?_ ?_
                              rotate_left
                              · intro w'
                                go_simp
                                with_reducible rfl
                              rotate_left
                              · simp only [Act.put, List.setIfInBounds_toArray, List.set_cons_zero, List.set_cons_succ, i64_w, i32_w]
                                rfl
                              refine pure_ (i := 3) (N := some 53) (v := ?_) (a' := ?_) #[true, false, true, true, false, false, false, false, false] rfl rfl (any_of HT_.out (by kernel_rfl)) (fun _ _ _ h => h) (Or.inl ⟨by rfl, ?_⟩) ?_ ?_
                              rotate_left
                              · intro w'
                                go_simp
                                with_reducible rfl
                              rotate_left
                              · simp only [Act.put, List.setIfInBounds_toArray, List.set_cons_zero, List.set_cons_succ, i64_w, i32_w]
                                rfl
                              refine pure_ (i := 4) (N := some 54) (v := ?_) (a' := ?_) #[true, false, true, true, true, false, false, false, false] rfl rfl (any_of HT_.out (by kernel_rfl)) (fun _ _ _ h => h) (Or.inl ⟨by rfl, ?_⟩) ?_ ?_
                              rotate_left
                              · intro w'
                                go_simp
                                with_reducible rfl
                              rotate_left
                              · simp only [Act.put, List.setIfInBounds_toArray, List.set_cons_zero, List.set_cons_succ, i64_w, i32_w]
                                rfl
                              refine pure_ (i := 5) (N := some 55) (v := ?_) (a' := ?_) #[true, false, true, true, true, true, false, false, false] rfl rfl (any_of HT_.out (by kernel_rfl)) (fun _ _ _ h => h) (Or.inl ⟨by rfl, ?_⟩) ?_ ?_
                              rotate_left
                              · intro w'
                                go_simp
                                with_reducible rfl
                              rotate_left
                              · simp only [Act.put, List.setIfInBounds_toArray, List.set_cons_zero, List.set_cons_succ, i64_w, i32_w]
                                rfl
                              refine pure_ (i := 6) (N := some 56) (v := ?_) (a' := ?_) #[true, false, true, true, true, true, true, false, false] rfl rfl (any_of HT_.out (by kernel_rfl)) (fun _ _ _ h => h) (Or.inl ⟨by rfl, ?_⟩) ?_ ?_
                              rotate_left
                              · intro w'
                                go_simp
                                with_reducible rfl
                              rotate_left
                              · simp only [Act.put, List.setIfInBounds_toArray, List.set_cons_zero, List.set_cons_succ, i64_w, i32_w]
                                rfl
                              refine take_ (i := 1) (N := some 51) (v := ?_) (a' := ?_) #[true, true, true, true, true, true, true, false, false] rfl rfl (take_ofW HT_.out HW_.out (by kernel_rfl)) (fun _ _ _ h => h) (Or.inl ⟨by rfl, ?_⟩) hHeld ?_ ?_
                              rotate_left
                              · rintro w' ⟨s0, s1, s2, s3⟩
                                go_simp
                                with_reducible rfl
                              rotate_left
                              · simp only [Act.put, List.setIfInBounds_toArray, List.set_cons_zero, List.set_cons_succ, i64_w, i32_w]
                                rfl
                              refine take_ (i := 7) (N := some 57) (v := ?_) (a' := ?_) #[true, true, true, true, true, true, true, true, false] rfl rfl (take_ofW HT_.out HW_.out (by kernel_rfl)) (fun _ _ _ h => h) (Or.inl ⟨by rfl, ?_⟩) hHeld ?_ ?_
                              rotate_left
                              · rintro w' ⟨s0, s1, s2, s3⟩
                                go_simp
                                with_reducible rfl
                              rotate_left
                              · simp only [Act.put, List.setIfInBounds_toArray, List.set_cons_zero, List.set_cons_succ, i64_w, i32_w]
                                rfl
                              refine pure_ (i := 8) (N := some 58) (v := ?_) (a' := ?_) #[true, true, true, true, true, true, true, true, true] rfl rfl (any_of HT_.out (by kernel_rfl)) (fun _ _ _ h => h) (Or.inl ⟨by rfl, ?_⟩) ?_ ?_
                              rotate_left
                              · intro w'
                                go_simp
                                with_reducible rfl
                              rotate_left
                              · simp only [Act.put, List.setIfInBounds_toArray, List.set_cons_zero, List.set_cons_succ, i64_w, i32_w]
                                rfl
                              refine done_ (done_of HT_.out (by kernel_rfl)) ?_
                              try go_wp2
                              have n0_ := Aside0.mk (Kd.R_drew HO_6.out)
                              have n1_ := Aside0.mk (blk_drew BK103.out)
                              have n2_ := Aside0.mk (below_drew1 HB.out)
                              clear HO_6
                              clear BK103
                              clear HB
                              have HO_6 := n0_
                              have BK103 := n1_
                              have HB := n2_
                              clear n0_ n1_ n2_
                              obtain ⟨Ao67, co67, eo67⟩ := Kd.R_slice HO_6.out
                              (first | subst eo67 | (injection eo67 with f1_ f2_ f3_; have f4_ := f1_.symm; have f5_ := f3_.symm; clear f1_ f2_ f3_; subst f4_; subst f5_))
                              have q68 : ((ji47) : Int) ≤ ((t104.length : Int) : Int) := of_decide_eq_true (by first | (with_reducible assumption) | assumption)
                              obtain ⟨i068, hi068, _, hsz68, _⟩ := info_parts info24
                              have hroom68 : t104.length ≤ co67 := (Kd.R_reads' HO_6.out).2.1
                              have hC68 : Kd.C k24 _ Ao67 t104.length t104 := (Kd.R_reads' HO_6.out).2.2
                              have hcut68 := cut_to (P := Try.prog) 22 24 .i64 Try.underlying22 hi068 Ao67 t104.length co67 (ji47) (of_decide_eq_true (by first | (with_reducible assumption) | assumption)) q68 hroom68
                              have hr68 := Kd.C_take (m := ((ji47) : Int).toNat) hC68 (by omega)
                              have hy68 : y126.length = ((ji47) : Int).toNat := (by rw [Ny126.out, List.length_take]; omega)
                              rw [← Ny126.out] at hr68
                              rw [← hy68] at hcut68
                              have HR129 := Aside0.mk hr68
                              have HC129 := Aside0.mk (show y126.length ≤ co67 from by omega)
                              clear hr68 hC68 hroom68 hi068 hsz68
                              have KY68 := Aside0.mk hy68
                              clear hy68
                              have KL68 := Aside0.mk (show ((ji47) : Int).toNat ≤ t104.length from by omega)
                              replace q68 := eq_true q68
                              have q69 : ((ji47) : Int) ≤ ((l0.length : Int) : Int) := of_decide_eq_true (by first | (with_reducible assumption) | assumption)
                              obtain ⟨i069, hi069, _, hsz69, _⟩ := info_parts info24
                              have hroom69 : l0.length ≤ c0 := HC0.out
                              have hC69 : Kd.C k24 _ (some ad125) l0.length l0 := HR0.out
                              have hcut69 := cut_to (P := Try.prog) 22 24 .i64 Try.underlying22 hi069 (some ad125) l0.length c0 (ji47) (of_decide_eq_true (by first | (with_reducible assumption) | assumption)) q69 hroom69
                              have hr69 := Kd.C_take (m := ((ji47) : Int).toNat) hC69 (by omega)
                              have hy69 : y130.length = ((ji47) : Int).toNat := (by rw [Ny130.out, List.length_take]; omega)
                              rw [← Ny130.out] at hr69
                              rw [← hy69] at hcut69
                              have HR133 := Aside0.mk hr69
                              have HC133 := Aside0.mk (show y130.length ≤ c0 from by omega)
                              clear hr69 hC69 hroom69 hi069 hsz69
                              have KY69 := Aside0.mk hy69
                              clear hy69
                              replace q69 := eq_true q69
                              refine start_ (n := 33) (S := fun w' => True) (ds := []) #[false, false, false, false, false, false, false, false, false, false, false, false, false, false, false, false, false, false, false, false, false, false, false, false, false, false, false, false, false, false, false, false, false] (by kernel_rfl) rfl rfl trivial (fun hHeld => ?_); refine with_tabW laws_FnAppendRange.tab15 laws_FnAppendRange.bits15 (fun HT_ HW_ => ?_)
                              generalize w65.drew = w66 at HO_6 BK103 HB HR129 HR133 hHeld ⊢
                              refine pure_ (i := 0) (N := some 59) (v := ?_) (a' := ?_) #[true, false, false, false, false, false, false, false, false, false, false, false, false, false, false, false, false, false, false, false, false, false, false, false, false, false, false, false, false, false, false, false, false] rfl rfl (any_of HT_.out (by kernel_rfl)) (fun _ _ _ h => h) (Or.inl ⟨by rfl, ?_⟩) ?_ ?_
                              rotate_left
                              · intro w'
                                go_simp
                                with_reducible rfl
                              rotate_left
                              · simp only [Act.put, List.setIfInBounds_toArray, List.set_cons_zero, List.set_cons_succ, i64_w, i32_w]
                                rfl
                              refine pure_ (i := 1) (N := some 60) (v := ?_) (a' := ?_) #[true, true, false, false, false, false, false, false, false, false, false, false, false, false, false, false, false, false, false, false, false, false, false, false, false, false, false, false, false, false, false, false, false] rfl rfl (any_of HT_.out (by kernel_rfl)) (fun _ _ _ h => h) (Or.inl ⟨by rfl, ?_⟩) ?_ ?_
                              rotate_left
                              · intro w'
                                go_simp
                                with_reducible rfl
                              rotate_left
                              · simp only [Act.put, List.setIfInBounds_toArray, List.set_cons_zero, List.set_cons_succ, i64_w, i32_w]
                                rfl
                              refine pure_ (i := 2) (N := some 61) (v := ?_) (a' := ?_) #[true, true, true, false, false, false, false, false, false, false, false, false, false, false, false, false, false, false, false, false, false, false, false, false, false, false, false, false, false, false, false, false, false] rfl rfl (any_of HT_.out (by kernel_rfl)) (fun _ _ _ h => h) (Or.inl ⟨by rfl, ?_⟩) ?_ ?_
                              rotate_left
                              · intro w'
                                go_simp
                                with_reducible rfl
                              rotate_left
                              · simp only [Act.put, List.setIfInBounds_toArray, List.set_cons_zero, List.set_cons_succ, i64_w, i32_w]
                                rfl
                              refine pure_ (i := 3) (N := some 62) (v := ?_) (a' := ?_) #[true, true, true, true, false, false, false, false, false, false, false, false, false, false, false, false, false, false, false, false, false, false, false, false, false, false, false, false, false, false, false, false, false] rfl rfl (any_of HT_.out (by kernel_rfl)) (fun _ _ _ h => h) (Or.inl ⟨by rfl, ?_⟩) ?_ ?_
                              rotate_left
                              · intro w'
                                go_simp
                                with_reducible rfl
                              rotate_left
                              · simp only [Act.put, List.setIfInBounds_toArray, List.set_cons_zero, List.set_cons_succ, i64_w, i32_w]
                                rfl
                              refine pure_ (i := 4) (N := some 63) (v := ?_) (a' := ?_) #[true, true, true, true, true, false, false, false, false, false, false, false, false, false, false, false, false, false, false, false, false, false, false, false, false, false, false, false, false, false, false, false, false] rfl rfl (any_of HT_.out (by kernel_rfl)) (fun _ _ _ h => h) (Or.inl ⟨by rfl, ?_⟩) ?_ ?_
                              rotate_left
                              · intro w'
                                go_simp
                                with_reducible rfl
                              rotate_left
                              · simp only [Act.put, List.setIfInBounds_toArray, List.set_cons_zero, List.set_cons_succ, i64_w, i32_w]
                                rfl
                              refine pure_ (i := 5) (N := some 64) (v := ?_) (a' := ?_) #[true, true, true, true, true, true, false, false, false, false, false, false, false, false, false, false, false, false, false, false, false, false, false, false, false, false, false, false, false, false, false, false, false] rfl rfl (any_of HT_.out (by kernel_rfl)) (fun _ _ _ h => h) (Or.inl ⟨by rfl, ?_⟩) ?_ ?_
                              rotate_left
                              · intro w'
                                go_simp
                                with_reducible rfl
                              rotate_left
                              · simp only [Act.put, List.setIfInBounds_toArray, List.set_cons_zero, List.set_cons_succ, i64_w, i32_w]
                                rfl
                              refine pure_ (i := 6) (N := some 65) (v := ?_) (a' := ?_) #[true, true, true, true, true, true, true, false, false, false, false, false, false, false, false, false, false, false, false, false, false, false, false, false, false, false, false, false, false, false, false, false, false] rfl rfl (any_of HT_.out (by kernel_rfl)) (fun _ _ _ h => h) (Or.inl ⟨by rfl, ?_⟩) ?_ ?_
                              rotate_left
                              · intro w'
                                go_simp
                                with_reducible rfl
                              rotate_left
                              · simp only [Act.put, List.setIfInBounds_toArray, List.set_cons_zero, List.set_cons_succ, i64_w, i32_w]
                                rfl
                              refine pure_ (i := 7) (N := some 66) (v := ?_) (a' := ?_) #[true, true, true, true, true, true, true, true, false, false, false, false, false, false, false, false, false, false, false, false, false, false, false, false, false, false, false, false, false, false, false, false, false] rfl rfl (any_of HT_.out (by kernel_rfl)) (fun _ _ _ h => h) (Or.inl ⟨by rfl, ?_⟩) ?_ ?_
                              rotate_left
                              · intro w'
                                go_simp
                                with_reducible rfl
                              rotate_left
                              · simp only [Act.put, List.setIfInBounds_toArray, List.set_cons_zero, List.set_cons_succ, i64_w, i32_w]
                                rfl
                              refine pure_ (i := 8) (N := some 67) (v := ?_) (a' := ?_) #[true, true, true, true, true, true, true, true, true, false, false, false, false, false, false, false, false, false, false, false, false, false, false, false, false, false, false, false, false, false, false, false, false] rfl rfl (any_of HT_.out (by kernel_rfl)) (fun _ _ _ h => h) (Or.inl ⟨by rfl, ?_⟩) ?_ ?_
                              rotate_left
                              · intro w'
                                go_simp
                                with_reducible rfl
                              rotate_left
                              · simp only [Act.put, List.setIfInBounds_toArray, List.set_cons_zero, List.set_cons_succ, i64_w, i32_w]
                                rfl
                              refine pure_ (i := 9) (N := some 68) (v := ?_) (a' := ?_) #[true, true, true, true, true, true, true, true, true, true, false, false, false, false, false, false, false, false, false, false, false, false, false, false, false, false, false, false, false, false, false, false, false] rfl rfl (any_of HT_.out (by kernel_rfl)) (fun _ _ _ h => h) (Or.inl ⟨by rfl, ?_⟩) ?_ ?_
                              rotate_left
                              · intro w'
                                go_simp
                                with_reducible rfl
                              rotate_left
                              · simp only [Act.put, List.setIfInBounds_toArray, List.set_cons_zero, List.set_cons_succ, i64_w, i32_w]
                                rfl
                              refine pure_ (i := 10) (N := some 69) (v := ?_) (a' := ?_) #[true, true, true, true, true, true, true, true, true, true, true, false, false, false, false, false, false, false, false, false, false, false, false, false, false, false, false, false, false, false, false, false, false] rfl rfl (any_of HT_.out (by kernel_rfl)) (fun _ _ _ h => h) (Or.inl ⟨by rfl, ?_⟩) ?_ ?_
                              rotate_left
                              · intro w'
                                go_simp
                                with_reducible rfl
                              rotate_left
                              · simp only [Act.put, List.setIfInBounds_toArray, List.set_cons_zero, List.set_cons_succ, i64_w, i32_w]
                                rfl
                              refine pure_ (i := 11) (N := some 70) (v := ?_) (a' := ?_) #[true, true, true, true, true, true, true, true, true, true, true, true, false, false, false, false, false, false, false, false, false, false, false, false, false, false, false, false, false, false, false, false, false] rfl rfl (any_of HT_.out (by kernel_rfl)) (fun _ _ _ h => h) (Or.inl ⟨by rfl, ?_⟩) ?_ ?_
                              rotate_left
                              · intro w'
                                go_simp
                                with_reducible rfl
                              rotate_left
                              · simp only [Act.put, List.setIfInBounds_toArray, List.set_cons_zero, List.set_cons_succ, i64_w, i32_w]
                                rfl
                              refine pure_ (i := 12) (N := some 71) (v := ?_) (a' := ?_) #[true, true, true, true, true, true, true, true, true, true, true, true, true, false, false, false, false, false, false, false, false, false, false, false, false, false, false, false, false, false, false, false, false] rfl rfl (any_of HT_.out (by kernel_rfl)) (fun _ _ _ h => h) (Or.inl ⟨by rfl, ?_⟩) ?_ ?_
                              rotate_left
                              · intro w'
                                go_simp
                                with_reducible rfl
                              rotate_left
                              · simp only [Act.put, List.setIfInBounds_toArray, List.set_cons_zero, List.set_cons_succ, i64_w, i32_w]
                                rfl
                              refine one_ (i := 13) (N := some 72) #[true, true, true, true, true, true, true, true, true, true, true, true, true, true, false, false, false, false, false, false, false, false, false, false, false, false, false, false, false, false, false, false, false] rfl rfl (one_of HT_.out (by kernel_rfl)) (by decide) (fun K hK => ?_)
                              refine goes_ Try.func12 (by kernel_rfl) rfl #[.slice Ao67 y126.length co67, .slice (some ad125) y130.length c0] (by rfl) rfl rfl (by (try simp only [List.map_toArray, List.map_cons, List.map_nil]); first | done | rfl | (simp only [List.length_drop, List.length_take]; rfl)) ?_
                              with_reducible refine (laws_sameRanges.calls kj18 _ _ y126 _ _ y130 false _ ?side1 ?side2 ?side3 ?side4 A57.out).mono ?_
                              (case side1 => repeat (first | exact (by repeat (first | (with_reducible exact HR129.out) | (with_reducible refine Kd.C_alloc ?_ _) | (with_reducible refine Kd.C_drewN ?_ _) | (with_reducible refine Kd.C_drew ?_) | exact HR129.out)) | (with_reducible refine Kd.C_alloc ?_ _) | (with_reducible refine Kd.C_drewN ?_ _) | (with_reducible refine Kd.C_drew ?_)))
                              (case side2 => exact HC129.out)
                              (case side3 => repeat (first | exact (Kd.C_below HR133.out HB.out) | (with_reducible refine Kd.C_alloc ?_ _) | (with_reducible refine Kd.C_drewN ?_ _) | (with_reducible refine Kd.C_drew ?_)))
                              (case side4 => exact HC133.out)
                              rintro e w' ⟨rfl, ⟨nd, rfl⟩⟩
                              refine ⟨_, rfl, ?_⟩
                              refine hK.out _ _ trivial (fun hHeld => ?_)
                              clear hK K
                              refine norm_ (a' := ?_) ?_ ?_
                              rotate_left
                              · show Act.put _ (some 72) _ = _
                                simp only [Act.put, List.setIfInBounds_toArray, List.set_cons_zero, List.set_cons_succ, i64_w, i32_w]
                                rfl
                              refine pure_ (i := 14) (N := some 73) (v := ?_) (a' := ?_) #[true, true, true, true, true, true, true, true, true, true, true, true, true, true, true, false, false, false, false, false, false, false, false, false, false, false, false, false, false, false, false, false, false] rfl rfl (any_of HT_.out (by kernel_rfl)) (fun _ _ _ h => h) (Or.inl ⟨by rfl, ?_⟩) ?_ ?_
                              rotate_left
                              · intro w'
                                go_simp
                                with_reducible rfl
                              rotate_left
                              · simp only [Act.put, List.setIfInBounds_toArray, List.set_cons_zero, List.set_cons_succ, i64_w, i32_w]
                                rfl
                              refine pure_ (i := 15) (N := some 74) (v := ?_) (a' := ?_) #[true, true, true, true, true, true, true, true, true, true, true, true, true, true, true, true, false, false, false, false, false, false, false, false, false, false, false, false, false, false, false, false, false] rfl rfl (any_of HT_.out (by kernel_rfl)) (fun _ _ _ h => h) (Or.inl ⟨by rfl, ?_⟩) ?_ ?_
                              rotate_left
                              · intro w'
                                go_simp
                                with_reducible rfl
                              rotate_left
                              · simp only [Act.put, List.setIfInBounds_toArray, List.set_cons_zero, List.set_cons_succ, i64_w, i32_w]
                                rfl
                              refine pure_ (i := 16) (N := some 75) (v := undef) (a' := ?_) #[true, true, true, true, true, true, true, true, true, true, true, true, true, true, true, true, true, false, false, false, false, false, false, false, false, false, false, false, false, false, false, false, false] rfl rfl (any_of HT_.out (by kernel_rfl)) (fun _ _ _ h => h) (Or.inr ⟨by rfl, rfl⟩) ?_ ?_
                              rotate_left
                              · simp only [Act.put, List.setIfInBounds_toArray, List.set_cons_zero, List.set_cons_succ, i64_w, i32_w]
                                rfl
                              refine pure_ (i := 17) (N := some 76) (v := undef) (a' := ?_) #[true, true, true, true, true, true, true, true, true, true, true, true, true, true, true, true, true, true, false, false, false, false, false, false, false, false, false, false, false, false, false, false, false] rfl rfl (any_of HT_.out (by kernel_rfl)) (fun _ _ _ h => h) (Or.inr ⟨by rfl, rfl⟩) ?_ ?_
                              rotate_left
                              · simp only [Act.put, List.setIfInBounds_toArray, List.set_cons_zero, List.set_cons_succ, i64_w, i32_w]
                                rfl
                              refine pure_ (i := 18) (N := some 77) (v := undef) (a' := ?_) #[true, true, true, true, true, true, true, true, true, true, true, true, true, true, true, true, true, true, true, false, false, false, false, false, false, false, false, false, false, false, false, false, false] rfl rfl (any_of HT_.out (by kernel_rfl)) (fun _ _ _ h => h) (Or.inr ⟨by rfl, rfl⟩) ?_ ?_
                              rotate_left
                              · simp only [Act.put, List.setIfInBounds_toArray, List.set_cons_zero, List.set_cons_succ, i64_w, i32_w]
                                rfl
                              refine pure_ (i := 19) (N := some 78) (v := undef) (a' := ?_) #[true, true, true, true, true, true, true, true, true, true, true, true, true, true, true, true, true, true, true, true, false, false, false, false, false, false, false, false, false, false, false, false, false] rfl rfl (any_of HT_.out (by kernel_rfl)) (fun _ _ _ h => h) (Or.inr ⟨by rfl, rfl⟩) ?_ ?_
                              rotate_left
                              · simp only [Act.put, List.setIfInBounds_toArray, List.set_cons_zero, List.set_cons_succ, i64_w, i32_w]
                                rfl
                              refine pure_ (i := 20) (N := some 79) (v := undef) (a' := ?_) #[true, true, true, true, true, true, true, true, true, true, true, true, true, true, true, true, true, true, true, true, true, false, false, false, false, false, false, false, false, false, false, false, false] rfl rfl (any_of HT_.out (by kernel_rfl)) (fun _ _ _ h => h) (Or.inr ⟨by rfl, rfl⟩) ?_ ?_
                              rotate_left
                              · simp only [Act.put, List.setIfInBounds_toArray, List.set_cons_zero, List.set_cons_succ, i64_w, i32_w]
                                rfl
                              refine pure_ (i := 21) (N := some 80) (v := undef) (a' := ?_) #[true, true, true, true, true, true, true, true, true, true, true, true, true, true, true, true, true, true, true, true, true, true, false, false, false, false, false, false, false, false, false, false, false] rfl rfl (any_of HT_.out (by kernel_rfl)) (fun _ _ _ h => h) (Or.inr ⟨by rfl, rfl⟩) ?_ ?_
                              rotate_left
                              · simp only [Act.put, List.setIfInBounds_toArray, List.set_cons_zero, List.set_cons_succ, i64_w, i32_w]
                                rfl
                              refine pure_ (i := 22) (N := some 81) (v := undef) (a' := ?_) #[true, true, true, true, true, true, true, true, true, true, true, true, true, true, true, true, true, true, true, true, true, true, true, false, false, false, false, false, false, false, false, false, false] rfl rfl (any_of HT_.out (by kernel_rfl)) (fun _ _ _ h => h) (Or.inr ⟨by rfl, rfl⟩) ?_ ?_
                              rotate_left
                              · simp only [Act.put, List.setIfInBounds_toArray, List.set_cons_zero, List.set_cons_succ, i64_w, i32_w]
                                rfl
                              refine pure_ (i := 23) (N := some 82) (v := undef) (a' := ?_) #[true, true, true, true, true, true, true, true, true, true, true, true, true, true, true, true, true, true, true, true, true, true, true, true, false, false, false, false, false, false, false, false, false] rfl rfl (any_of HT_.out (by kernel_rfl)) (fun _ _ _ h => h) (Or.inr ⟨by rfl, rfl⟩) ?_ ?_
                              rotate_left
                              · simp only [Act.put, List.setIfInBounds_toArray, List.set_cons_zero, List.set_cons_succ, i64_w, i32_w]
                                rfl
                              refine pure_ (i := 24) (N := some 83) (v := undef) (a' := ?_) #[true, true, true, true, true, true, true, true, true, true, true, true, true, true, true, true, true, true, true, true, true, true, true, true, true, false, false, false, false, false, false, false, false] rfl rfl (any_of HT_.out (by kernel_rfl)) (fun _ _ _ h => h) (Or.inr ⟨by rfl, rfl⟩) ?_ ?_
                              rotate_left
                              · simp only [Act.put, List.setIfInBounds_toArray, List.set_cons_zero, List.set_cons_succ, i64_w, i32_w]
                                rfl
                              refine pure_ (i := 25) (N := some 84) (v := undef) (a' := ?_) #[true, true, true, true, true, true, true, true, true, true, true, true, true, true, true, true, true, true, true, true, true, true, true, true, true, true, false, false, false, false, false, false, false] rfl rfl (any_of HT_.out (by kernel_rfl)) (fun _ _ _ h => h) (Or.inr ⟨by rfl, rfl⟩) ?_ ?_
                              rotate_left
                              · simp only [Act.put, List.setIfInBounds_toArray, List.set_cons_zero, List.set_cons_succ, i64_w, i32_w]
                                rfl
                              refine pure_ (i := 26) (N := some 85) (v := undef) (a' := ?_) #[true, true, true, true, true, true, true, true, true, true, true, true, true, true, true, true, true, true, true, true, true, true, true, true, true, true, true, false, false, false, false, false, false] rfl rfl (any_of HT_.out (by kernel_rfl)) (fun _ _ _ h => h) (Or.inr ⟨by rfl, rfl⟩) ?_ ?_
                              rotate_left
                              · simp only [Act.put, List.setIfInBounds_toArray, List.set_cons_zero, List.set_cons_succ, i64_w, i32_w]
                                rfl
                              refine pure_ (i := 27) (N := some 86) (v := undef) (a' := ?_) #[true, true, true, true, true, true, true, true, true, true, true, true, true, true, true, true, true, true, true, true, true, true, true, true, true, true, true, true, false, false, false, false, false] rfl rfl (any_of HT_.out (by kernel_rfl)) (fun _ _ _ h => h) (Or.inr ⟨by rfl, rfl⟩) ?_ ?_
                              rotate_left
                              · simp only [Act.put, List.setIfInBounds_toArray, List.set_cons_zero, List.set_cons_succ, i64_w, i32_w]
                                rfl
                              refine pure_ (i := 28) (N := some 87) (v := undef) (a' := ?_) #[true, true, true, true, true, true, true, true, true, true, true, true, true, true, true, true, true, true, true, true, true, true, true, true, true, true, true, true, true, false, false, false, false] rfl rfl (any_of HT_.out (by kernel_rfl)) (fun _ _ _ h => h) (Or.inr ⟨by rfl, rfl⟩) ?_ ?_
                              rotate_left
                              · simp only [Act.put, List.setIfInBounds_toArray, List.set_cons_zero, List.set_cons_succ, i64_w, i32_w]
                                rfl
                              refine pure_ (i := 29) (N := some 88) (v := undef) (a' := ?_) #[true, true, true, true, true, true, true, true, true, true, true, true, true, true, true, true, true, true, true, true, true, true, true, true, true, true, true, true, true, true, false, false, false] rfl rfl (any_of HT_.out (by kernel_rfl)) (fun _ _ _ h => h) (Or.inr ⟨by rfl, rfl⟩) ?_ ?_
                              rotate_left
                              · simp only [Act.put, List.setIfInBounds_toArray, List.set_cons_zero, List.set_cons_succ, i64_w, i32_w]
                                rfl
                              refine pure_ (i := 30) (N := some 89) (v := undef) (a' := ?_) #[true, true, true, true, true, true, true, true, true, true, true, true, true, true, true, true, true, true, true, true, true, true, true, true, true, true, true, true, true, true, true, false, false] rfl rfl (any_of HT_.out (by kernel_rfl)) (fun _ _ _ h => h) (Or.inr ⟨by rfl, rfl⟩) ?_ ?_
                              rotate_left
                              · simp only [Act.put, List.setIfInBounds_toArray, List.set_cons_zero, List.set_cons_succ, i64_w, i32_w]
                                rfl
                              refine pure_ (i := 31) (N := some 90) (v := ?_) (a' := ?_) #[true, true, true, true, true, true, true, true, true, true, true, true, true, true, true, true, true, true, true, true, true, true, true, true, true, true, true, true, true, true, true, true, false] rfl rfl (any_of HT_.out (by kernel_rfl)) (fun _ _ _ h => h) (Or.inl ⟨by rfl, ?_⟩) ?_ ?_
                              rotate_left
                              · intro w'
                                go_simp
                                with_reducible rfl
                              rotate_left
                              · simp only [Act.put, List.setIfInBounds_toArray, List.set_cons_zero, List.set_cons_succ, i64_w, i32_w]
                                rfl
                              refine pure_ (i := 32) (N := some 4) (v := ?_) (a' := ?_) #[true, true, true, true, true, true, true, true, true, true, true, true, true, true, true, true, true, true, true, true, true, true, true, true, true, true, true, true, true, true, true, true, true] rfl rfl (any_of HT_.out (by kernel_rfl)) (fun _ _ _ h => h) (Or.inl ⟨by rfl, ?_⟩) ?_ ?_
                              rotate_left
                              · intro w'
                                go_simp
                                with_reducible rfl
                              rotate_left
                              · simp only [Act.put, List.setIfInBounds_toArray, List.set_cons_zero, List.set_cons_succ, i64_w, i32_w]
                                rfl
                              refine done_ (done_of HT_.out (by kernel_rfl)) ?_
                              try go_wp2
                              go_ret
                              exact ⟨by first | rfl | (simp [errW_none, errW_some] <;> rfl) | (simp only [← hji47]; first | rfl | (simp [errW_none, errW_some] <;> rfl)) | (simp [*, errW_none, errW_some] <;> rfl), by repeat (first | (with_reducible first | exact HB.out | apply below_alloc | apply pw_below_drewN | apply below_drew1 | refine below_set ?_ GE103.out) | exact HB.out)⟩
                          · rw [if_neg c56] at H
                            exact absurd H (by simp)
                        · rw [if_neg c54] at H
                          exact absurd H (by simp)
                      · rw [if_neg c52] at H
                        have c52b0 : ((t104.length : Int) == (l0.length : Int)) = false := beq_eq_false_iff_ne.mpr c52
                        have c52b1 : ((t104.length : Int) != (l0.length : Int)) = true := bne_iff_ne.mpr c52
                        have c52b2 : (t104.length == l0.length) = false := by first | simpa using c52 | (simp at c52 ⊢; omega)
                        obtain rfl := Option.some.inj H
                        try go_wp2
                        have n0_ := Aside0.mk (Kd.R_drew HO_6.out)
                        have n1_ := Aside0.mk (blk_drew BK103.out)
                        have n2_ := Aside0.mk (below_drew1 HB.out)
                        clear HO_6
                        clear BK103
                        clear HB
                        have HO_6 := n0_
                        have BK103 := n1_
                        have HB := n2_
                        clear n0_ n1_ n2_
                        have p125 : 0 ≤ ((ji47) : Int) := of_decide_eq_true (by first | (with_reducible assumption) | assumption)
                        have q125 : (ji47) < (l0.length : Int) := of_decide_eq_true (by first | (with_reducible assumption) | assumption)
                        obtain ⟨ad125, e125, hx125_0, hx125_1⟩ := at_T24 HR0.out (ji47) p125 q125
                        have hw125_1 := hx125_1
                        have hw125_0 := hx125_0
                        cases e125
                        replace hx125_0 := (HB.out.cell (World.block_lt_of_cell? w _ hx125_0)).trans hx125_0
                        replace hx125_1 := (HB.out.cell (World.block_lt_of_cell? w _ hx125_1)).trans hx125_1
                        replace p125 := eq_true p125
                        replace q125 := eq_true q125
                        refine start_ (n := 9) (S := fun w' => w'.cell? ⟨gb103, 0, none⟩ = some (.int .i64 a1_0) ∧ w'.cell? ⟨gb103, 1, none⟩ = some (.int .i64 a1_1) ∧ w'.cell? (ad125.add (((ji47)).toNat * 2)) = some (.int .i64 ((rd_T24 l0 (ji47)).f0)) ∧ w'.cell? ⟨(ad125.add (((ji47)).toNat * 2)).block, (ad125.add (((ji47)).toNat * 2)).off + 1, none⟩ = some (.int .i64 ((rd_T24 l0 (ji47)).f1))) (ds := []) #[false, false, false, false, false, false, false, false, false] (by kernel_rfl) rfl rfl ⟨(blk_cell BK103.out 0).trans rfl, (blk_cell BK103.out 1).trans rfl, ((HB.out.cell (World.block_lt_of_cell? w _ hw125_0)).trans hw125_0), ((HB.out.cell (World.block_lt_of_cell? w _ hw125_1)).trans hw125_1)⟩ (fun hHeld => ?_); refine with_tabW laws_FnAppendRange.tab13 laws_FnAppendRange.bits13 (fun HT_ HW_ => ?_)
                        generalize wc.drew = w70 at HO_6 BK103 HB hx125_0 hx125_1 hHeld ⊢
                        refine pure_ (i := 0) (N := some 50) (v := ?_) (a' := ?_) #[true, false, false, false, false, false, false, false, false] rfl rfl (any_of HT_.out (by kernel_rfl)) (fun _ _ _ h => h) (Or.inl ⟨by rfl, ?_⟩) ?_ ?_
                        rotate_left
                        · intro w'
                          go_simp
                          with_reducible rfl
                        rotate_left
                        · simp only [Act.put, List.setIfInBounds_toArray, List.set_cons_zero, List.set_cons_succ, i64_w, i32_w]
                          rfl
                        refine pure_ (i := 2) (N := some 52) (v := ?_) (a' := ?_) #[true, false, true, false, false, false, false, false, false] rfl rfl (any_of HT_.out (by kernel_rfl)) (fun _ _ _ h => h) (Or.inl ⟨by rfl, ?_⟩) ?_ ?_
                        rotate_left
                        · intro w'
                          go_simp
                          with_reducible rfl
                        rotate_left
                        · simp only [Act.put, List.setIfInBounds_toArray, List.set_cons_zero, List.set_cons_succ, i64_w, i32_w]
                          rfl
                        refine pure_ (i := 3) (N := some 53) (v := ?_) (a' := ?_) #[true, false, true, true, false, false, false, false, false] rfl rfl (any_of HT_.out (by kernel_rfl)) (fun _ _ _ h => h) (Or.inl ⟨by rfl, ?_⟩) ?_ ?_
                        rotate_left
                        · intro w'
                          go_simp
                          with_reducible rfl
                        rotate_left
                        · simp only [Act.put, List.setIfInBounds_toArray, List.set_cons_zero, List.set_cons_succ, i64_w, i32_w]
                          rfl
                        refine pure_ (i := 4) (N := some 54) (v := ?_) (a' := ?_) #[true, false, true, true, true, false, false, false, false] rfl rfl (any_of HT_.out (by kernel_rfl)) (fun _ _ _ h => h) (Or.inl ⟨by rfl, ?_⟩) ?_ ?_
                        rotate_left
                        · intro w'
                          go_simp
                          with_reducible rfl
                        rotate_left
                        · simp only [Act.put, List.setIfInBounds_toArray, List.set_cons_zero, List.set_cons_succ, i64_w, i32_w]
                          rfl
                        refine pure_ (i := 5) (N := some 55) (v := ?_) (a' := ?_) #[true, false, true, true, true, true, false, false, false] rfl rfl (any_of HT_.out (by kernel_rfl)) (fun _ _ _ h => h) (Or.inl ⟨by rfl, ?_⟩) ?_ ?_
                        rotate_left
                        · intro w'
                          go_simp
                          with_reducible rfl
                        rotate_left
                        · simp only [Act.put, List.setIfInBounds_toArray, List.set_cons_zero, List.set_cons_succ, i64_w, i32_w]
                          rfl
                        refine pure_ (i := 6) (N := some 56) (v := ?_) (a' := ?_) #[true, false, true, true, true, true, true, false, false] rfl rfl (any_of HT_.out (by kernel_rfl)) (fun _ _ _ h => h) (Or.inl ⟨by rfl, ?_⟩) ?_ ?_
                        rotate_left
                        · intro w'
                          go_simp
                          with_reducible rfl
                        rotate_left
                        · simp only [Act.put, List.setIfInBounds_toArray, List.set_cons_zero, List.set_cons_succ, i64_w, i32_w]
                          rfl
                        refine take_ (i := 1) (N := some 51) (v := ?_) (a' := ?_) #[true, true, true, true, true, true, true, false, false] rfl rfl (take_ofW HT_.out HW_.out (by kernel_rfl)) (fun _ _ _ h => h) (Or.inl ⟨by rfl, ?_⟩) hHeld ?_ ?_
                        rotate_left
                        · rintro w' ⟨s0, s1, s2, s3⟩
                          go_simp
                          with_reducible rfl
                        rotate_left
                        · simp only [Act.put, List.setIfInBounds_toArray, List.set_cons_zero, List.set_cons_succ, i64_w, i32_w]
                          rfl
                        refine take_ (i := 7) (N := some 57) (v := ?_) (a' := ?_) #[true, true, true, true, true, true, true, true, false] rfl rfl (take_ofW HT_.out HW_.out (by kernel_rfl)) (fun _ _ _ h => h) (Or.inl ⟨by rfl, ?_⟩) hHeld ?_ ?_
                        rotate_left
                        · rintro w' ⟨s0, s1, s2, s3⟩
                          go_simp
                          with_reducible rfl
                        rotate_left
                        · simp only [Act.put, List.setIfInBounds_toArray, List.set_cons_zero, List.set_cons_succ, i64_w, i32_w]
                          rfl
                        refine pure_ (i := 8) (N := some 58) (v := ?_) (a' := ?_) #[true, true, true, true, true, true, true, true, true] rfl rfl (any_of HT_.out (by kernel_rfl)) (fun _ _ _ h => h) (Or.inl ⟨by rfl, ?_⟩) ?_ ?_
                        rotate_left
                        · intro w'
                          go_simp
                          with_reducible rfl
                        rotate_left
                        · simp only [Act.put, List.setIfInBounds_toArray, List.set_cons_zero, List.set_cons_succ, i64_w, i32_w]
                          rfl
                        refine done_ (done_of HT_.out (by kernel_rfl)) ?_
                        try go_wp2
                        have n0_ := Aside0.mk (Kd.R_drew HO_6.out)
                        have n1_ := Aside0.mk (blk_drew BK103.out)
                        have n2_ := Aside0.mk (below_drew1 HB.out)
                        clear HO_6
                        clear BK103
                        clear HB
                        have HO_6 := n0_
                        have BK103 := n1_
                        have HB := n2_
                        clear n0_ n1_ n2_
                        obtain ⟨Ao72, co72, eo72⟩ := Kd.R_slice HO_6.out
                        (first | subst eo72 | (injection eo72 with f1_ f2_ f3_; have f4_ := f1_.symm; have f5_ := f3_.symm; clear f1_ f2_ f3_; subst f4_; subst f5_))
                        refine start_ (n := 33) (S := fun w' => True) (ds := []) #[false, false, false, false, false, false, false, false, false, false, false, false, false, false, false, false, false, false, false, false, false, false, false, false, false, false, false, false, false, false, false, false, false] (by kernel_rfl) rfl rfl trivial (fun hHeld => ?_); refine with_tabW laws_FnAppendRange.tab15 laws_FnAppendRange.bits15 (fun HT_ HW_ => ?_)
                        generalize w70.drew = w71 at HO_6 BK103 HB hHeld ⊢
                        refine pure_ (i := 0) (N := some 59) (v := ?_) (a' := ?_) #[true, false, false, false, false, false, false, false, false, false, false, false, false, false, false, false, false, false, false, false, false, false, false, false, false, false, false, false, false, false, false, false, false] rfl rfl (any_of HT_.out (by kernel_rfl)) (fun _ _ _ h => h) (Or.inl ⟨by rfl, ?_⟩) ?_ ?_
                        rotate_left
                        · intro w'
                          go_simp
                          with_reducible rfl
                        rotate_left
                        · simp only [Act.put, List.setIfInBounds_toArray, List.set_cons_zero, List.set_cons_succ, i64_w, i32_w]
                          rfl
                        refine pure_ (i := 1) (N := some 60) (v := ?_) (a' := ?_) #[true, true, false, false, false, false, false, false, false, false, false, false, false, false, false, false, false, false, false, false, false, false, false, false, false, false, false, false, false, false, false, false, false] rfl rfl (any_of HT_.out (by kernel_rfl)) (fun _ _ _ h => h) (Or.inl ⟨by rfl, ?_⟩) ?_ ?_
                        rotate_left
                        · intro w'
                          go_simp
                          with_reducible rfl
                        rotate_left
                        · simp only [Act.put, List.setIfInBounds_toArray, List.set_cons_zero, List.set_cons_succ, i64_w, i32_w]
                          rfl
                        refine pure_ (i := 2) (N := some 61) (v := ?_) (a' := ?_) #[true, true, true, false, false, false, false, false, false, false, false, false, false, false, false, false, false, false, false, false, false, false, false, false, false, false, false, false, false, false, false, false, false] rfl rfl (any_of HT_.out (by kernel_rfl)) (fun _ _ _ h => h) (Or.inl ⟨by rfl, ?_⟩) ?_ ?_
                        rotate_left
                        · intro w'
                          go_simp
                          with_reducible rfl
                        rotate_left
                        · simp only [Act.put, List.setIfInBounds_toArray, List.set_cons_zero, List.set_cons_succ, i64_w, i32_w]
                          rfl
                        refine pure_ (i := 3) (N := some 62) (v := ?_) (a' := ?_) #[true, true, true, true, false, false, false, false, false, false, false, false, false, false, false, false, false, false, false, false, false, false, false, false, false, false, false, false, false, false, false, false, false] rfl rfl (any_of HT_.out (by kernel_rfl)) (fun _ _ _ h => h) (Or.inl ⟨by rfl, ?_⟩) ?_ ?_
                        rotate_left
                        · intro w'
                          go_simp
                          with_reducible rfl
                        rotate_left
                        · simp only [Act.put, List.setIfInBounds_toArray, List.set_cons_zero, List.set_cons_succ, i64_w, i32_w]
                          rfl
                        refine pure_ (i := 4) (N := some 63) (v := ?_) (a' := ?_) #[true, true, true, true, true, false, false, false, false, false, false, false, false, false, false, false, false, false, false, false, false, false, false, false, false, false, false, false, false, false, false, false, false] rfl rfl (any_of HT_.out (by kernel_rfl)) (fun _ _ _ h => h) (Or.inl ⟨by rfl, ?_⟩) ?_ ?_
                        rotate_left
                        · intro w'
                          go_simp
                          with_reducible rfl
                        rotate_left
                        · simp only [Act.put, List.setIfInBounds_toArray, List.set_cons_zero, List.set_cons_succ, i64_w, i32_w]
                          rfl
                        refine pure_ (i := 5) (N := some 64) (v := undef) (a' := ?_) #[true, true, true, true, true, true, false, false, false, false, false, false, false, false, false, false, false, false, false, false, false, false, false, false, false, false, false, false, false, false, false, false, false] rfl rfl (any_of HT_.out (by kernel_rfl)) (fun _ _ _ h => h) (Or.inr ⟨by rfl, rfl⟩) ?_ ?_
                        rotate_left
                        · simp only [Act.put, List.setIfInBounds_toArray, List.set_cons_zero, List.set_cons_succ, i64_w, i32_w]
                          rfl
                        refine pure_ (i := 6) (N := some 65) (v := undef) (a' := ?_) #[true, true, true, true, true, true, true, false, false, false, false, false, false, false, false, false, false, false, false, false, false, false, false, false, false, false, false, false, false, false, false, false, false] rfl rfl (any_of HT_.out (by kernel_rfl)) (fun _ _ _ h => h) (Or.inr ⟨by rfl, rfl⟩) ?_ ?_
                        rotate_left
                        · simp only [Act.put, List.setIfInBounds_toArray, List.set_cons_zero, List.set_cons_succ, i64_w, i32_w]
                          rfl
                        refine pure_ (i := 7) (N := some 66) (v := undef) (a' := ?_) #[true, true, true, true, true, true, true, true, false, false, false, false, false, false, false, false, false, false, false, false, false, false, false, false, false, false, false, false, false, false, false, false, false] rfl rfl (any_of HT_.out (by kernel_rfl)) (fun _ _ _ h => h) (Or.inr ⟨by rfl, rfl⟩) ?_ ?_
                        rotate_left
                        · simp only [Act.put, List.setIfInBounds_toArray, List.set_cons_zero, List.set_cons_succ, i64_w, i32_w]
                          rfl
                        refine pure_ (i := 8) (N := some 67) (v := undef) (a' := ?_) #[true, true, true, true, true, true, true, true, true, false, false, false, false, false, false, false, false, false, false, false, false, false, false, false, false, false, false, false, false, false, false, false, false] rfl rfl (any_of HT_.out (by kernel_rfl)) (fun _ _ _ h => h) (Or.inr ⟨by rfl, rfl⟩) ?_ ?_
                        rotate_left
                        · simp only [Act.put, List.setIfInBounds_toArray, List.set_cons_zero, List.set_cons_succ, i64_w, i32_w]
                          rfl
                        refine pure_ (i := 9) (N := some 68) (v := undef) (a' := ?_) #[true, true, true, true, true, true, true, true, true, true, false, false, false, false, false, false, false, false, false, false, false, false, false, false, false, false, false, false, false, false, false, false, false] rfl rfl (any_of HT_.out (by kernel_rfl)) (fun _ _ _ h => h) (Or.inr ⟨by rfl, rfl⟩) ?_ ?_
                        rotate_left
                        · simp only [Act.put, List.setIfInBounds_toArray, List.set_cons_zero, List.set_cons_succ, i64_w, i32_w]
                          rfl
                        refine pure_ (i := 10) (N := some 69) (v := undef) (a' := ?_) #[true, true, true, true, true, true, true, true, true, true, true, false, false, false, false, false, false, false, false, false, false, false, false, false, false, false, false, false, false, false, false, false, false] rfl rfl (any_of HT_.out (by kernel_rfl)) (fun _ _ _ h => h) (Or.inr ⟨by rfl, rfl⟩) ?_ ?_
                        rotate_left
                        · simp only [Act.put, List.setIfInBounds_toArray, List.set_cons_zero, List.set_cons_succ, i64_w, i32_w]
                          rfl
                        refine pure_ (i := 11) (N := some 70) (v := undef) (a' := ?_) #[true, true, true, true, true, true, true, true, true, true, true, true, false, false, false, false, false, false, false, false, false, false, false, false, false, false, false, false, false, false, false, false, false] rfl rfl (any_of HT_.out (by kernel_rfl)) (fun _ _ _ h => h) (Or.inr ⟨by rfl, rfl⟩) ?_ ?_
                        rotate_left
                        · simp only [Act.put, List.setIfInBounds_toArray, List.set_cons_zero, List.set_cons_succ, i64_w, i32_w]
                          rfl
                        refine pure_ (i := 12) (N := some 71) (v := undef) (a' := ?_) #[true, true, true, true, true, true, true, true, true, true, true, true, true, false, false, false, false, false, false, false, false, false, false, false, false, false, false, false, false, false, false, false, false] rfl rfl (any_of HT_.out (by kernel_rfl)) (fun _ _ _ h => h) (Or.inr ⟨by rfl, rfl⟩) ?_ ?_
                        rotate_left
                        · simp only [Act.put, List.setIfInBounds_toArray, List.set_cons_zero, List.set_cons_succ, i64_w, i32_w]
                          rfl
                        refine pure_ (i := 13) (N := some 72) (v := undef) (a' := ?_) #[true, true, true, true, true, true, true, true, true, true, true, true, true, true, false, false, false, false, false, false, false, false, false, false, false, false, false, false, false, false, false, false, false] rfl rfl (any_of HT_.out (by kernel_rfl)) (fun _ _ _ h => h) (Or.inr ⟨by rfl, rfl⟩) ?_ ?_
                        rotate_left
                        · simp only [Act.put, List.setIfInBounds_toArray, List.set_cons_zero, List.set_cons_succ, i64_w, i32_w]
                          rfl
                        refine pure_ (i := 14) (N := some 73) (v := ?_) (a' := ?_) #[true, true, true, true, true, true, true, true, true, true, true, true, true, true, true, false, false, false, false, false, false, false, false, false, false, false, false, false, false, false, false, false, false] rfl rfl (any_of HT_.out (by kernel_rfl)) (fun _ _ _ h => h) (Or.inl ⟨by rfl, ?_⟩) ?_ ?_
                        rotate_left
                        · intro w'
                          go_simp
                          with_reducible rfl
                        rotate_left
                        · simp only [Act.put, List.setIfInBounds_toArray, List.set_cons_zero, List.set_cons_succ, i64_w, i32_w]
                          rfl
                        refine pure_ (i := 15) (N := some 74) (v := ?_) (a' := ?_) #[true, true, true, true, true, true, true, true, true, true, true, true, true, true, true, true, false, false, false, false, false, false, false, false, false, false, false, false, false, false, false, false, false] rfl rfl (any_of HT_.out (by kernel_rfl)) (fun _ _ _ h => h) (Or.inl ⟨by rfl, ?_⟩) ?_ ?_
                        rotate_left
                        · intro w'
                          go_simp
                          with_reducible rfl
                        rotate_left
                        · simp only [Act.put, List.setIfInBounds_toArray, List.set_cons_zero, List.set_cons_succ, i64_w, i32_w]
                          rfl
                        refine pure_ (i := 16) (N := some 75) (v := undef) (a' := ?_) #[true, true, true, true, true, true, true, true, true, true, true, true, true, true, true, true, true, false, false, false, false, false, false, false, false, false, false, false, false, false, false, false, false] rfl rfl (any_of HT_.out (by kernel_rfl)) (fun _ _ _ h => h) (Or.inr ⟨by rfl, rfl⟩) ?_ ?_
                        rotate_left
                        · simp only [Act.put, List.setIfInBounds_toArray, List.set_cons_zero, List.set_cons_succ, i64_w, i32_w]
                          rfl
                        refine pure_ (i := 17) (N := some 76) (v := undef) (a' := ?_) #[true, true, true, true, true, true, true, true, true, true, true, true, true, true, true, true, true, true, false, false, false, false, false, false, false, false, false, false, false, false, false, false, false] rfl rfl (any_of HT_.out (by kernel_rfl)) (fun _ _ _ h => h) (Or.inr ⟨by rfl, rfl⟩) ?_ ?_
                        rotate_left
                        · simp only [Act.put, List.setIfInBounds_toArray, List.set_cons_zero, List.set_cons_succ, i64_w, i32_w]
                          rfl
                        refine pure_ (i := 18) (N := some 77) (v := undef) (a' := ?_) #[true, true, true, true, true, true, true, true, true, true, true, true, true, true, true, true, true, true, true, false, false, false, false, false, false, false, false, false, false, false, false, false, false] rfl rfl (any_of HT_.out (by kernel_rfl)) (fun _ _ _ h => h) (Or.inr ⟨by rfl, rfl⟩) ?_ ?_
                        rotate_left
                        · simp only [Act.put, List.setIfInBounds_toArray, List.set_cons_zero, List.set_cons_succ, i64_w, i32_w]
                          rfl
                        refine pure_ (i := 19) (N := some 78) (v := undef) (a' := ?_) #[true, true, true, true, true, true, true, true, true, true, true, true, true, true, true, true, true, true, true, true, false, false, false, false, false, false, false, false, false, false, false, false, false] rfl rfl (any_of HT_.out (by kernel_rfl)) (fun _ _ _ h => h) (Or.inr ⟨by rfl, rfl⟩) ?_ ?_
                        rotate_left
                        · simp only [Act.put, List.setIfInBounds_toArray, List.set_cons_zero, List.set_cons_succ, i64_w, i32_w]
                          rfl
                        refine pure_ (i := 20) (N := some 79) (v := undef) (a' := ?_) #[true, true, true, true, true, true, true, true, true, true, true, true, true, true, true, true, true, true, true, true, true, false, false, false, false, false, false, false, false, false, false, false, false] rfl rfl (any_of HT_.out (by kernel_rfl)) (fun _ _ _ h => h) (Or.inr ⟨by rfl, rfl⟩) ?_ ?_
                        rotate_left
                        · simp only [Act.put, List.setIfInBounds_toArray, List.set_cons_zero, List.set_cons_succ, i64_w, i32_w]
                          rfl
                        refine pure_ (i := 21) (N := some 80) (v := undef) (a' := ?_) #[true, true, true, true, true, true, true, true, true, true, true, true, true, true, true, true, true, true, true, true, true, true, false, false, false, false, false, false, false, false, false, false, false] rfl rfl (any_of HT_.out (by kernel_rfl)) (fun _ _ _ h => h) (Or.inr ⟨by rfl, rfl⟩) ?_ ?_
                        rotate_left
                        · simp only [Act.put, List.setIfInBounds_toArray, List.set_cons_zero, List.set_cons_succ, i64_w, i32_w]
                          rfl
                        refine pure_ (i := 22) (N := some 81) (v := undef) (a' := ?_) #[true, true, true, true, true, true, true, true, true, true, true, true, true, true, true, true, true, true, true, true, true, true, true, false, false, false, false, false, false, false, false, false, false] rfl rfl (any_of HT_.out (by kernel_rfl)) (fun _ _ _ h => h) (Or.inr ⟨by rfl, rfl⟩) ?_ ?_
                        rotate_left
                        · simp only [Act.put, List.setIfInBounds_toArray, List.set_cons_zero, List.set_cons_succ, i64_w, i32_w]
                          rfl
                        refine pure_ (i := 23) (N := some 82) (v := undef) (a' := ?_) #[true, true, true, true, true, true, true, true, true, true, true, true, true, true, true, true, true, true, true, true, true, true, true, true, false, false, false, false, false, false, false, false, false] rfl rfl (any_of HT_.out (by kernel_rfl)) (fun _ _ _ h => h) (Or.inr ⟨by rfl, rfl⟩) ?_ ?_
                        rotate_left
                        · simp only [Act.put, List.setIfInBounds_toArray, List.set_cons_zero, List.set_cons_succ, i64_w, i32_w]
                          rfl
                        refine pure_ (i := 24) (N := some 83) (v := undef) (a' := ?_) #[true, true, true, true, true, true, true, true, true, true, true, true, true, true, true, true, true, true, true, true, true, true, true, true, true, false, false, false, false, false, false, false, false] rfl rfl (any_of HT_.out (by kernel_rfl)) (fun _ _ _ h => h) (Or.inr ⟨by rfl, rfl⟩) ?_ ?_
                        rotate_left
                        · simp only [Act.put, List.setIfInBounds_toArray, List.set_cons_zero, List.set_cons_succ, i64_w, i32_w]
                          rfl
                        refine pure_ (i := 25) (N := some 84) (v := undef) (a' := ?_) #[true, true, true, true, true, true, true, true, true, true, true, true, true, true, true, true, true, true, true, true, true, true, true, true, true, true, false, false, false, false, false, false, false] rfl rfl (any_of HT_.out (by kernel_rfl)) (fun _ _ _ h => h) (Or.inr ⟨by rfl, rfl⟩) ?_ ?_
                        rotate_left
                        · simp only [Act.put, List.setIfInBounds_toArray, List.set_cons_zero, List.set_cons_succ, i64_w, i32_w]
                          rfl
                        refine pure_ (i := 26) (N := some 85) (v := undef) (a' := ?_) #[true, true, true, true, true, true, true, true, true, true, true, true, true, true, true, true, true, true, true, true, true, true, true, true, true, true, true, false, false, false, false, false, false] rfl rfl (any_of HT_.out (by kernel_rfl)) (fun _ _ _ h => h) (Or.inr ⟨by rfl, rfl⟩) ?_ ?_
                        rotate_left
                        · simp only [Act.put, List.setIfInBounds_toArray, List.set_cons_zero, List.set_cons_succ, i64_w, i32_w]
                          rfl
                        refine pure_ (i := 27) (N := some 86) (v := undef) (a' := ?_) #[true, true, true, true, true, true, true, true, true, true, true, true, true, true, true, true, true, true, true, true, true, true, true, true, true, true, true, true, false, false, false, false, false] rfl rfl (any_of HT_.out (by kernel_rfl)) (fun _ _ _ h => h) (Or.inr ⟨by rfl, rfl⟩) ?_ ?_
                        rotate_left
                        · simp only [Act.put, List.setIfInBounds_toArray, List.set_cons_zero, List.set_cons_succ, i64_w, i32_w]
                          rfl
                        refine pure_ (i := 28) (N := some 87) (v := undef) (a' := ?_) #[true, true, true, true, true, true, true, true, true, true, true, true, true, true, true, true, true, true, true, true, true, true, true, true, true, true, true, true, true, false, false, false, false] rfl rfl (any_of HT_.out (by kernel_rfl)) (fun _ _ _ h => h) (Or.inr ⟨by rfl, rfl⟩) ?_ ?_
                        rotate_left
                        · simp only [Act.put, List.setIfInBounds_toArray, List.set_cons_zero, List.set_cons_succ, i64_w, i32_w]
                          rfl
                        refine pure_ (i := 29) (N := some 88) (v := undef) (a' := ?_) #[true, true, true, true, true, true, true, true, true, true, true, true, true, true, true, true, true, true, true, true, true, true, true, true, true, true, true, true, true, true, false, false, false] rfl rfl (any_of HT_.out (by kernel_rfl)) (fun _ _ _ h => h) (Or.inr ⟨by rfl, rfl⟩) ?_ ?_
                        rotate_left
                        · simp only [Act.put, List.setIfInBounds_toArray, List.set_cons_zero, List.set_cons_succ, i64_w, i32_w]
                          rfl
                        refine pure_ (i := 30) (N := some 89) (v := undef) (a' := ?_) #[true, true, true, true, true, true, true, true, true, true, true, true, true, true, true, true, true, true, true, true, true, true, true, true, true, true, true, true, true, true, true, false, false] rfl rfl (any_of HT_.out (by kernel_rfl)) (fun _ _ _ h => h) (Or.inr ⟨by rfl, rfl⟩) ?_ ?_
                        rotate_left
                        · simp only [Act.put, List.setIfInBounds_toArray, List.set_cons_zero, List.set_cons_succ, i64_w, i32_w]
                          rfl
                        refine pure_ (i := 31) (N := some 90) (v := ?_) (a' := ?_) #[true, true, true, true, true, true, true, true, true, true, true, true, true, true, true, true, true, true, true, true, true, true, true, true, true, true, true, true, true, true, true, true, false] rfl rfl (any_of HT_.out (by kernel_rfl)) (fun _ _ _ h => h) (Or.inl ⟨by rfl, ?_⟩) ?_ ?_
                        rotate_left
                        · intro w'
                          go_simp
                          with_reducible rfl
                        rotate_left
                        · simp only [Act.put, List.setIfInBounds_toArray, List.set_cons_zero, List.set_cons_succ, i64_w, i32_w]
                          rfl
                        refine pure_ (i := 32) (N := some 4) (v := ?_) (a' := ?_) #[true, true, true, true, true, true, true, true, true, true, true, true, true, true, true, true, true, true, true, true, true, true, true, true, true, true, true, true, true, true, true, true, true] rfl rfl (any_of HT_.out (by kernel_rfl)) (fun _ _ _ h => h) (Or.inl ⟨by rfl, ?_⟩) ?_ ?_
                        rotate_left
                        · intro w'
                          go_simp
                          with_reducible rfl
                        rotate_left
                        · simp only [Act.put, List.setIfInBounds_toArray, List.set_cons_zero, List.set_cons_succ, i64_w, i32_w]
                          rfl
                        refine done_ (done_of HT_.out (by kernel_rfl)) ?_
                        try go_wp2
                        go_ret
                        exact ⟨by first | rfl | (simp [errW_none, errW_some] <;> rfl) | (simp only [← hji47]; first | rfl | (simp [errW_none, errW_some] <;> rfl)) | (simp [*, errW_none, errW_some] <;> rfl), by repeat (first | (with_reducible first | exact HB.out | apply below_alloc | apply pw_below_drewN | apply below_drew1 | refine below_set ?_ GE103.out) | exact HB.out)⟩
                  · rw [if_neg c49] at H
                    exact absurd H (by simp)
                · rw [if_neg c48] at H
                  exact absurd H (by simp)
      · rw [if_neg c9] at H
        have c9b0 : ((t107.length : Int) == 1) = false := beq_eq_false_iff_ne.mpr c9
        have c9b1 : ((t107.length : Int) != 1) = true := bne_iff_ne.mpr c9
        obtain rfl := Option.some.inj H
        go_enter Try.func3, Try.ntmps3
        go_wp2_with (first | ((with_reducible refine gate_dst (N := 3) rfl ?_); refine box_event ?hg (N := 3) ?hd (cs := #[.int .i64 a1_0, .int .i64 a1_1]) (t := 24) ?hr ?_; (case hd => rfl); (case hg => rfl); (case hr => first | (go_simp; done) | (go_simp; rfl)); intro gb103 hg w73 hbox hb; have n0_ := Aside0.mk (below_step (by repeat (first | (with_reducible first | exact HB.out | apply below_alloc | apply pw_below_drewN | apply below_drew1) | exact HB.out)) hb); have n1_ := Aside0.mk (hbox); have n2_ := Aside0.mk ((by rw [hg]; exact (below_size (by repeat (first | (with_reducible first | exact HB.out | apply below_alloc | apply pw_below_drewN | apply below_drew1) | exact HB.out))) : w.heap.size ≤ gb103)); have n3_ := Aside0.mk ((by rw [hg]; exact (below_size (by repeat (first | (with_reducible first | exact HB.out | apply below_alloc | apply pw_below_drewN | apply below_drew1) | exact HB.out))) : w.heap.size ≤ gb103)); clear HB; have HB := n0_; have BK103 := n1_; have GW103 := n2_; have GE103 := n3_; clear n0_ n1_ n2_ n3_; clear hb hbox hg; have hcz74_0 : w73.cell? ⟨gb103, 0, none⟩ = some (.int .i64 a1_0) := (blk_cell BK103.out 0).trans rfl; have hcz74_1 : w73.cell? ⟨gb103, 1, none⟩ = some (.int .i64 a1_1) := (blk_cell BK103.out 1).trans rfl; have hfz74_0 := blk_frozen BK103.out 0; have hfz74_1 := blk_frozen BK103.out 1) | ((with_reducible refine gate_callee (f := 11) rfl ?_); refine goesL_ (some 16) rfl rfl Try.func11 (by kernel_rfl) rfl #[.slice A0 l0.length c0, .agg #[.int .i64 a1_0, .int .i64 a1_1]] rfl (by (try simp only [List.map_toArray, List.map_cons, List.map_nil]); first | done | rfl | (simp only [List.length_drop, List.length_take]; rfl)) ?_; (with_reducible refine (impl_AppendRange.calls _ _ l0 a1_0 a1_1 t104 _ ?side1 ?side2 A7.out).mono ?_); (case side1 => repeat (first | exact (Kd.C_below HR0.out HB.out) | (with_reducible refine Kd.C_alloc ?_ _) | (with_reducible refine Kd.C_drewN ?_ _) | (with_reducible refine Kd.C_drew ?_))); (case side2 => exact HC0.out); rintro e w75 ⟨v105, rfl, ho0, hb⟩; refine ⟨_, rfl, ?_⟩; have n0_ := Aside0.mk (Kd.R_lower (Kd.R_newB ho0 (g := gb103) (o := .cells #[.int .i64 a1_0, .int .i64 a1_1] 24 (0, 0)) (by (with_reducible repeat (first | refine blk_drewN ?_ _ | refine blk_drew ?_ | refine blk_alloc ?_ _)); exact BK103.out)) (below_size (by repeat (first | (with_reducible first | exact HB.out | apply below_alloc | apply pw_below_drewN | apply below_drew1 | refine below_set ?_ GE103.out) | exact HB.out)))); have n1_ := Aside0.mk (blk_below (g := gb103) (o := .cells #[.int .i64 a1_0, .int .i64 a1_1] 24 (0, 0)) (by (with_reducible repeat (first | refine blk_drewN ?_ _ | refine blk_drew ?_ | refine blk_alloc ?_ _)); exact BK103.out) hb); have n2_ := Aside0.mk (below_step (by repeat (first | (with_reducible first | exact HB.out | apply below_alloc | apply pw_below_drewN | apply below_drew1 | refine below_set ?_ GE103.out) | exact HB.out)) hb); clear BK103; clear HB; have HO106 := n0_; have BK103 := n1_; have HB := n2_; clear n0_ n1_ n2_; (try clear hb); (try clear hb2); (try clear hk); (try clear hi); (try clear ho0)) | ((with_reducible refine gate_callee (f := 11) rfl ?_); refine goesL_ (some 18) rfl rfl Try.func11 (by kernel_rfl) rfl #[.slice none 0 0, .agg #[.int .i64 1, .int .i64 2]] rfl (by (try simp only [List.map_toArray, List.map_cons, List.map_nil]); first | done | rfl | (simp only [List.length_drop, List.length_take]; rfl)) ?_; (refine (impl_AppendRange.calls _ _ ([] : List (S24)) 1 2 t107 _ ?side1 ?side2 A8.out).mono ?_); (case side1 => exact Kd.C_nil _ _); (case side2 => exact Nat.le_refl _); rintro e w76 ⟨v108, rfl, ho0, hb⟩; refine ⟨_, rfl, ?_⟩; have n0_ := Aside0.mk (Kd.R_elder' (by (with_reducible repeat (first | apply Kd.R_alloc | apply Kd.R_drewN | apply Kd.R_drew)); exact HO106.out) (Kd.R_base ho0) hb); have n1_ := Aside0.mk (Kd.R_lower (Kd.R_newB (Kd.R_new' ho0 (Kd.R_lt (by (with_reducible repeat (first | apply Kd.R_alloc | apply Kd.R_drewN | apply Kd.R_drew)); exact HO106.out))) (g := gb103) (o := .cells #[.int .i64 a1_0, .int .i64 a1_1] 24 (0, 0)) (by (with_reducible repeat (first | refine blk_drewN ?_ _ | refine blk_drew ?_ | refine blk_alloc ?_ _)); exact BK103.out)) (below_size (by repeat (first | (with_reducible first | exact HB.out | apply below_alloc | apply pw_below_drewN | apply below_drew1 | refine below_set ?_ GE103.out) | exact HB.out)))); have n2_ := Aside0.mk (blk_below (g := gb103) (o := .cells #[.int .i64 a1_0, .int .i64 a1_1] 24 (0, 0)) (by (with_reducible repeat (first | refine blk_drewN ?_ _ | refine blk_drew ?_ | refine blk_alloc ?_ _)); exact BK103.out) hb); have n3_ := Aside0.mk (below_step (by repeat (first | (with_reducible first | exact HB.out | apply below_alloc | apply pw_below_drewN | apply below_drew1 | refine below_set ?_ GE103.out) | exact HB.out)) hb); clear HO106; clear BK103; clear HB; have HO106 := n0_; have HO109 := n1_; have BK103 := n2_; have HB := n3_; clear n0_ n1_ n2_ n3_; (try clear hb); (try clear hb2); (try clear hk); (try clear hi); (try clear ho0); obtain ⟨Ao77, co77, eo77⟩ := Kd.R_slice HO109.out; subst eo77))
        go_ret
        exact ⟨by first | rfl | (simp [errW_none, errW_some] <;> rfl) | (simp [*, errW_none, errW_some] <;> rfl), by repeat (first | (with_reducible first | exact HB.out | apply below_alloc | apply pw_below_drewN | apply below_drew1 | refine below_set ?_ GE103.out) | exact HB.out)⟩

/-- THE ONE PURE STATEMENT of laws_FnAppendRange. -/
def laws_FnAppendRange.Pure : Prop := ∀ (l0 : List (S24)) (a1_0 : Int) (a1_1 : Int), (l0.length ≤ maxLen ∧ ∀ x_ ∈ l0, wf24 x_) → ((Lit.int .i64 a1_0).wf = true) → ((Lit.int .i64 a1_1).wf = true) → ∃ k, laws_FnAppendRange.f k l0 a1_0 a1_1 = some true

end Go.Proofs.Ytepealmdnaondaa.PAll
