-- Printed by a program of this session (mkprint.py over the kit's print.py)
import Derived.Test.YtepealmdnaondaaPAllx0
import Derived.Test.YtepealmdnaondaaExtra
namespace Go.Proofs.Ytepealmdnaondaa.PAll
open Go.RowKit Go.Proofs.YtepealmdnaondaaW.PrintWords Go.Proofs.YtepealmdnaondaaW.PrintLast Go.Proofs.YtepealmdnaondaaW.PrintMore
attribute [local go_sem] max2_int min2_int max_two min_two max_three min_three max_four min_four   -- for this text's walks alone
set_option linter.unusedVariables false
set_option linter.unusedSimpArgs false

/-! ### spec_AreApart: function 13 -/
def spec_AreApart.l0 : Nat → List (S24) → List (S24) → Int → Int → Option (Bool)
  | 0, _, _, _, _ => none
  | k + 1, x0, x5, x6, x7 => if x7 < x6 then (if 0 ≤ x7 then (if x7 < (x5.length : Int) then (if ((rd_T24 x5 x7).f0) ≥ ((rd_T24 x5 x7).f1) then (some false) else (if x7 > 0 then (if 0 ≤ (wrap64 (x7 - 1)) then (if (wrap64 (x7 - 1)) < (x0.length : Int) then (if ((rd_T24 x0 (wrap64 (x7 - 1))).f1) ≥ ((rd_T24 x5 x7).f0) then (some false) else (spec_AreApart.l0 k x0 x5 x6 (wrap64 (x7 + 1)))) else (none)) else (none)) else (spec_AreApart.l0 k x0 x5 x6 (wrap64 (x7 + 1))))) else (none)) else (none)) else (some true)
def spec_AreApart.f (k : Nat) (l0 : List (S24)) : Option (Bool) := spec_AreApart.l0 k l0 l0 (l0.length : Int) 0
theorem spec_AreApart.mono_l : ∀ k, (∀ y0 y1 y2 y3, LeO (spec_AreApart.l0 k y0 y1 y2 y3) (spec_AreApart.l0 (k + 1) y0 y1 y2 y3))
  | 0 => fun _ _ _ _ r h => by simp [spec_AreApart.l0] at h
  | k + 1 => by
    have ih0 := spec_AreApart.mono_l k
    · intro y0 y1 y2 y3
      unfold spec_AreApart.l0
      repeat' first
      | (with_reducible exact ih0 _ _ _ _)
      | (with_reducible exact LeO.refl _)
      | (with_reducible exact LeO.none _)
      | (with_reducible refine LeO.ite ?_ ?_)
      | (with_reducible refine LeO.bind ?_ (fun _ => ?_))
      | exact ih0 _ _ _ _
      | exact LeO.none _
      | refine LeO.ite ?_ ?_
      | refine LeO.bind ?_ (fun _ => ?_)
theorem spec_AreApart.mono : ∀ a0 k, LeO (spec_AreApart.f k a0) (spec_AreApart.f (k + 1) a0) := by
  intro a0 k
  have ih0 := spec_AreApart.mono_l k
  unfold spec_AreApart.f
  repeat' first
      | (with_reducible exact ih0 _ _ _ _)
      | (with_reducible exact LeO.refl _)
      | (with_reducible exact LeO.none _)
      | (with_reducible refine LeO.ite ?_ ?_)
      | (with_reducible refine LeO.bind ?_ (fun _ => ?_))
      | exact ih0 _ _ _ _
      | exact LeO.none _
      | refine LeO.ite ?_ ?_
      | refine LeO.bind ?_ (fun _ => ?_)
set_option maxHeartbeats 8000000 in
set_option maxRecDepth 100000 in
theorem spec_AreApart.calls (k : Nat) (A0 : Option Addr) (c0 : Nat) (l0 : List (S24)) (r : Bool) (w : World) (hr0 : Kd.C k24 w A0 l0.length l0) (hc0 : l0.length ≤ c0) (h : spec_AreApart.f k l0 = some r) :
    Calls Try.prog 13 #[.slice A0 l0.length c0] w fun e w' => e = .returned (.bool r) ∧ Below w.heap.size w w' := by
  have hu24 := Try.underlying24
  have HR0 := Aside0.mk hr0
  have HC0 := Aside0.mk hc0
  clear hr0 hc0
  have HB := Aside0.mk (Below.refl w.heap.size w)
  have H : (spec_AreApart.l0 k l0 l0 (l0.length : Int) 0) = some r := h
  clear h
  have H' := Aside0.mk H
  clear H
  go_enter Try.func13, Try.ntmps13
  go_wp2
  repeat (go_quiet (fail); try go_wp2)
  go_loopg [7] k (fun kq v7 w' => ∃ (x7_1 : Int), v7 = .int .i64 x7_1 ∧ Aside0 (spec_AreApart.l0 kq l0 l0 (l0.length : Int) x7_1 = some r) ∧ Aside0 (kq ≤ k) ∧ Aside0 (Below w.heap.size w w'))
  case atStart => exact ⟨(0), (by first | rfl | (simp; done) | (simp [*]; done)), H', ⟨Nat.le_refl _⟩, ⟨by repeat (first | (with_reducible first | exact HB.out | apply below_alloc | apply pw_below_drewN | apply below_drew1) | exact HB.out)⟩⟩
  case round =>
    clear H'
    try clear c1
    obtain ⟨x7_1, rfl, HA, HK1, HB⟩ := hrel
    cases gk with
    | zero => exact absurd HA.out (by simp [spec_AreApart.l0])
    | succ k1 =>
      have H := HA.out
      clear HA
      simp only [spec_AreApart.l0] at H
      by_cases c2 : x7_1 < (l0.length : Int)
      · rw [if_pos c2] at H
        have c2b0 : decide (x7_1 < (l0.length : Int)) = true := decide_eq_true c2
        clear c2
        by_cases c3 : 0 ≤ x7_1
        · rw [if_pos c3] at H
          have c3b0 : decide (0 ≤ x7_1) = true := decide_eq_true c3
          clear c3
          by_cases c4 : x7_1 < (l0.length : Int)
          · rw [if_pos c4] at H
            have c4b0 : decide (x7_1 < (l0.length : Int)) = true := decide_eq_true c4
            clear c4
            by_cases c5 : ((rd_T24 l0 x7_1).f0) ≥ ((rd_T24 l0 x7_1).f1)
            · rw [if_pos c5] at H
              have c5b0 : decide (((rd_T24 l0 x7_1).f1) ≤ ((rd_T24 l0 x7_1).f0)) = true := decide_eq_true c5
              clear c5
              obtain rfl := Option.some.inj H
              have p137 : 0 ≤ (x7_1 : Int) := of_decide_eq_true (by first | (with_reducible assumption) | assumption)
              have q137 : x7_1 < (l0.length : Int) := of_decide_eq_true (by first | (with_reducible assumption) | assumption)
              obtain ⟨ad137, e137, hx137_0, hx137_1⟩ := at_T24 HR0.out x7_1 p137 q137
              cases e137
              replace hx137_0 := (HB.out.cell (World.block_lt_of_cell? w _ hx137_0)).trans hx137_0
              replace hx137_1 := (HB.out.cell (World.block_lt_of_cell? w _ hx137_1)).trans hx137_1
              replace p137 := eq_true p137
              replace q137 := eq_true q137
              go_wp2_with (first | ((with_reducible refine gate_dst (N := 4) rfl ?_); refine box_event ?hg (N := 4) ?hd (cs := #[.int .i64 0, .int .i64 0]) (t := 24) ?hr ?_; (case hd => rfl); (case hg => rfl); (case hr => first | (go_simp; done) | (go_simp; rfl)); intro gb138 hg w6 hbox hb; have n0_ := Aside0.mk (below_step (by repeat (first | (with_reducible first | exact HB.out | apply below_alloc | apply pw_below_drewN | apply below_drew1) | exact HB.out)) hb); have n1_ := Aside0.mk (hbox); have n2_ := Aside0.mk ((by rw [hg]; exact (below_size (by repeat (first | (with_reducible first | exact HB.out | apply below_alloc | apply pw_below_drewN | apply below_drew1) | exact HB.out))) : w.heap.size ≤ gb138)); have n3_ := Aside0.mk ((by rw [hg]; exact (below_size (by repeat (first | (with_reducible first | exact HB.out | apply below_alloc | apply pw_below_drewN | apply below_drew1) | exact HB.out))) : w.heap.size ≤ gb138)); clear HB; have HB := n0_; have BK138 := n1_; have GW138 := n2_; have GE138 := n3_; clear n0_ n1_ n2_ n3_; clear hb hbox hg; have hcz7_0 : w6.cell? ⟨gb138, 0, none⟩ = some (.int .i64 0) := (blk_cell BK138.out 0).trans rfl; have hcz7_1 : w6.cell? ⟨gb138, 1, none⟩ = some (.int .i64 0) := (blk_cell BK138.out 1).trans rfl; have hfz7_0 := blk_frozen BK138.out 0; have hfz7_1 := blk_frozen BK138.out 1))
              repeat (go_quiet (first | ((with_reducible refine gate_dst (N := 4) rfl ?_); refine box_event ?hg (N := 4) ?hd (cs := #[.int .i64 0, .int .i64 0]) (t := 24) ?hr ?_; (case hd => rfl); (case hg => rfl); (case hr => first | (go_simp; done) | (go_simp; rfl)); intro gb138 hg w6 hbox hb; have n0_ := Aside0.mk (below_step (by repeat (first | (with_reducible first | exact HB.out | apply below_alloc | apply pw_below_drewN | apply below_drew1) | exact HB.out)) hb); have n1_ := Aside0.mk (hbox); have n2_ := Aside0.mk ((by rw [hg]; exact (below_size (by repeat (first | (with_reducible first | exact HB.out | apply below_alloc | apply pw_below_drewN | apply below_drew1) | exact HB.out))) : w.heap.size ≤ gb138)); have n3_ := Aside0.mk ((by rw [hg]; exact (below_size (by repeat (first | (with_reducible first | exact HB.out | apply below_alloc | apply pw_below_drewN | apply below_drew1) | exact HB.out))) : w.heap.size ≤ gb138)); clear HB; have HB := n0_; have BK138 := n1_; have GW138 := n2_; have GE138 := n3_; clear n0_ n1_ n2_ n3_; clear hb hbox hg; have hcz7_0 : w6.cell? ⟨gb138, 0, none⟩ = some (.int .i64 0) := (blk_cell BK138.out 0).trans rfl; have hcz7_1 : w6.cell? ⟨gb138, 1, none⟩ = some (.int .i64 0) := (blk_cell BK138.out 1).trans rfl; have hfz7_0 := blk_frozen BK138.out 0; have hfz7_1 := blk_frozen BK138.out 1)); try go_wp2_with (first | ((with_reducible refine gate_dst (N := 4) rfl ?_); refine box_event ?hg (N := 4) ?hd (cs := #[.int .i64 0, .int .i64 0]) (t := 24) ?hr ?_; (case hd => rfl); (case hg => rfl); (case hr => first | (go_simp; done) | (go_simp; rfl)); intro gb138 hg w6 hbox hb; have n0_ := Aside0.mk (below_step (by repeat (first | (with_reducible first | exact HB.out | apply below_alloc | apply pw_below_drewN | apply below_drew1) | exact HB.out)) hb); have n1_ := Aside0.mk (hbox); have n2_ := Aside0.mk ((by rw [hg]; exact (below_size (by repeat (first | (with_reducible first | exact HB.out | apply below_alloc | apply pw_below_drewN | apply below_drew1) | exact HB.out))) : w.heap.size ≤ gb138)); have n3_ := Aside0.mk ((by rw [hg]; exact (below_size (by repeat (first | (with_reducible first | exact HB.out | apply below_alloc | apply pw_below_drewN | apply below_drew1) | exact HB.out))) : w.heap.size ≤ gb138)); clear HB; have HB := n0_; have BK138 := n1_; have GW138 := n2_; have GE138 := n3_; clear n0_ n1_ n2_ n3_; clear hb hbox hg; have hcz7_0 : w6.cell? ⟨gb138, 0, none⟩ = some (.int .i64 0) := (blk_cell BK138.out 0).trans rfl; have hcz7_1 : w6.cell? ⟨gb138, 1, none⟩ = some (.int .i64 0) := (blk_cell BK138.out 1).trans rfl; have hfz7_0 := blk_frozen BK138.out 0; have hfz7_1 := blk_frozen BK138.out 1)))
              go_ret
              exact ⟨by first | rfl | (simp [errW_none, errW_some] <;> rfl) | (simp [*, errW_none, errW_some] <;> rfl), by repeat (first | (with_reducible first | exact HB.out | apply below_alloc | apply pw_below_drewN | apply below_drew1 | refine below_set ?_ GE138.out) | exact HB.out)⟩
            · rw [if_neg c5] at H
              have c5b0 : decide (((rd_T24 l0 x7_1).f1) ≤ ((rd_T24 l0 x7_1).f0)) = false := decide_eq_false c5
              clear c5
              by_cases c8 : x7_1 > 0
              · rw [if_pos c8] at H
                have c8b0 : decide (0 < x7_1) = true := decide_eq_true c8
                clear c8
                obtain ⟨ji9, hji9⟩ : ∃ j_ : Int, (wrap64 (x7_1 - 1)) = j_ := ⟨_, rfl⟩
                replace H : (if 0 ≤ (ji9) then (if (ji9) < (l0.length : Int) then (if ((rd_T24 l0 (ji9)).f1) ≥ ((rd_T24 l0 x7_1).f0) then (some false) else (spec_AreApart.l0 k1 l0 l0 (l0.length : Int) (wrap64 (x7_1 + 1)))) else (none)) else (none)) = some r := by first | (rw [hji9] at H; exact H) | (simp only [hji9] at H ⊢; exact H)
                have hji9w : (IntKind.i64.wrap (x7_1 - 1)) = ji9 := (i64_w _).trans hji9
                by_cases c10 : 0 ≤ (ji9)
                · rw [if_pos c10] at H
                  have c10b0 : decide (0 ≤ (ji9)) = true := decide_eq_true c10
                  clear c10
                  by_cases c11 : (ji9) < (l0.length : Int)
                  · rw [if_pos c11] at H
                    have c11b0 : decide ((ji9) < (l0.length : Int)) = true := decide_eq_true c11
                    clear c11
                    by_cases c12 : ((rd_T24 l0 (ji9)).f1) ≥ ((rd_T24 l0 x7_1).f0)
                    · rw [if_pos c12] at H
                      have c12b0 : decide (((rd_T24 l0 x7_1).f0) ≤ ((rd_T24 l0 (ji9)).f1)) = true := decide_eq_true c12
                      clear c12
                      obtain rfl := Option.some.inj H
                      have p137 : 0 ≤ (x7_1 : Int) := of_decide_eq_true (by first | (with_reducible assumption) | assumption)
                      have q137 : x7_1 < (l0.length : Int) := of_decide_eq_true (by first | (with_reducible assumption) | assumption)
                      obtain ⟨ad137, e137, hx137_0, hx137_1⟩ := at_T24 HR0.out x7_1 p137 q137
                      cases e137
                      replace hx137_0 := (HB.out.cell (World.block_lt_of_cell? w _ hx137_0)).trans hx137_0
                      replace hx137_1 := (HB.out.cell (World.block_lt_of_cell? w _ hx137_1)).trans hx137_1
                      replace p137 := eq_true p137
                      replace q137 := eq_true q137
                      go_wp2_with (first | ((with_reducible refine gate_dst (N := 4) rfl ?_); refine box_event ?hg (N := 4) ?hd (cs := #[.int .i64 0, .int .i64 0]) (t := 24) ?hr ?_; (case hd => rfl); (case hg => rfl); (case hr => first | (go_simp; done) | (go_simp; rfl)); intro gb138 hg w13 hbox hb; have n0_ := Aside0.mk (below_step (by repeat (first | (with_reducible first | exact HB.out | apply below_alloc | apply pw_below_drewN | apply below_drew1) | exact HB.out)) hb); have n1_ := Aside0.mk (hbox); have n2_ := Aside0.mk ((by rw [hg]; exact (below_size (by repeat (first | (with_reducible first | exact HB.out | apply below_alloc | apply pw_below_drewN | apply below_drew1) | exact HB.out))) : w.heap.size ≤ gb138)); have n3_ := Aside0.mk ((by rw [hg]; exact (below_size (by repeat (first | (with_reducible first | exact HB.out | apply below_alloc | apply pw_below_drewN | apply below_drew1) | exact HB.out))) : w.heap.size ≤ gb138)); clear HB; have HB := n0_; have BK138 := n1_; have GW138 := n2_; have GE138 := n3_; clear n0_ n1_ n2_ n3_; clear hb hbox hg; have hcz14_0 : w13.cell? ⟨gb138, 0, none⟩ = some (.int .i64 0) := (blk_cell BK138.out 0).trans rfl; have hcz14_1 : w13.cell? ⟨gb138, 1, none⟩ = some (.int .i64 0) := (blk_cell BK138.out 1).trans rfl; have hfz14_0 := blk_frozen BK138.out 0; have hfz14_1 := blk_frozen BK138.out 1; have p139 : 0 ≤ ((ji9) : Int) := of_decide_eq_true (by first | (with_reducible assumption) | assumption); have q139 : (ji9) < (l0.length : Int) := of_decide_eq_true (by first | (with_reducible assumption) | assumption); obtain ⟨ad139, e139, hx139_0, hx139_1⟩ := at_T24 HR0.out (ji9) p139 q139; obtain rfl : ad137 = ad139 := (by injection e139); have hn139_0 : ad137.block ≠ gb138 := Nat.ne_of_lt (Nat.lt_of_lt_of_le (by have := World.block_lt_of_cell? _ _ hx139_0; first | rwa [add_block] at this | exact this) GW138.out); have hn139_1 : ad137.block ≠ gb138 := Nat.ne_of_lt (Nat.lt_of_lt_of_le (by have := World.block_lt_of_cell? _ _ hx139_0; first | rwa [add_block] at this | exact this) GW138.out); replace hx139_0 := (HB.out.cell (World.block_lt_of_cell? w _ hx139_0)).trans hx139_0; replace hx139_1 := (HB.out.cell (World.block_lt_of_cell? w _ hx139_1)).trans hx139_1; replace hx139_0 := (cell_far (p := ⟨gb138, 0, none⟩) (by first | (rw [add_block]; exact hn139_0) | (show (Addr.add _ _).block ≠ _; rw [add_block]; exact hn139_0) | exact hn139_0) (.int .i64 ((rd_T24 l0 x7_1).f0))).trans hx139_0; replace hx139_1 := (cell_far (p := ⟨gb138, 0, none⟩) (by first | (rw [add_block]; exact hn139_0) | (show (Addr.add _ _).block ≠ _; rw [add_block]; exact hn139_0) | exact hn139_0) (.int .i64 ((rd_T24 l0 x7_1).f0))).trans hx139_1; replace hx139_0 := (cell_far (p := ⟨gb138, 1, none⟩) (by first | (rw [add_block]; exact hn139_1) | (show (Addr.add _ _).block ≠ _; rw [add_block]; exact hn139_1) | exact hn139_1) (.int .i64 ((rd_T24 l0 x7_1).f1))).trans hx139_0; replace hx139_1 := (cell_far (p := ⟨gb138, 1, none⟩) (by first | (rw [add_block]; exact hn139_1) | (show (Addr.add _ _).block ≠ _; rw [add_block]; exact hn139_1) | exact hn139_1) (.int .i64 ((rd_T24 l0 x7_1).f1))).trans hx139_1; (try have hy139_0 := fun (n_ : Nat) => (show ((((w13.drewN n_).setCell ⟨gb138, 0, none⟩ (.int .i64 ((rd_T24 l0 x7_1).f0))).setCell ⟨gb138, 1, none⟩ (.int .i64 ((rd_T24 l0 x7_1).f1)))).cell? _ = some _ from hx139_0)); (try have hy139_1 := fun (n_ : Nat) => (show ((((w13.drewN n_).setCell ⟨gb138, 0, none⟩ (.int .i64 ((rd_T24 l0 x7_1).f0))).setCell ⟨gb138, 1, none⟩ (.int .i64 ((rd_T24 l0 x7_1).f1)))).cell? _ = some _ from hx139_1)); clear hn139_0; clear hn139_1; replace p139 := eq_true p139; replace q139 := eq_true q139))
                      repeat (go_quiet (first | ((with_reducible refine gate_dst (N := 4) rfl ?_); refine box_event ?hg (N := 4) ?hd (cs := #[.int .i64 0, .int .i64 0]) (t := 24) ?hr ?_; (case hd => rfl); (case hg => rfl); (case hr => first | (go_simp; done) | (go_simp; rfl)); intro gb138 hg w13 hbox hb; have n0_ := Aside0.mk (below_step (by repeat (first | (with_reducible first | exact HB.out | apply below_alloc | apply pw_below_drewN | apply below_drew1) | exact HB.out)) hb); have n1_ := Aside0.mk (hbox); have n2_ := Aside0.mk ((by rw [hg]; exact (below_size (by repeat (first | (with_reducible first | exact HB.out | apply below_alloc | apply pw_below_drewN | apply below_drew1) | exact HB.out))) : w.heap.size ≤ gb138)); have n3_ := Aside0.mk ((by rw [hg]; exact (below_size (by repeat (first | (with_reducible first | exact HB.out | apply below_alloc | apply pw_below_drewN | apply below_drew1) | exact HB.out))) : w.heap.size ≤ gb138)); clear HB; have HB := n0_; have BK138 := n1_; have GW138 := n2_; have GE138 := n3_; clear n0_ n1_ n2_ n3_; clear hb hbox hg; have hcz14_0 : w13.cell? ⟨gb138, 0, none⟩ = some (.int .i64 0) := (blk_cell BK138.out 0).trans rfl; have hcz14_1 : w13.cell? ⟨gb138, 1, none⟩ = some (.int .i64 0) := (blk_cell BK138.out 1).trans rfl; have hfz14_0 := blk_frozen BK138.out 0; have hfz14_1 := blk_frozen BK138.out 1; have p139 : 0 ≤ ((ji9) : Int) := of_decide_eq_true (by first | (with_reducible assumption) | assumption); have q139 : (ji9) < (l0.length : Int) := of_decide_eq_true (by first | (with_reducible assumption) | assumption); obtain ⟨ad139, e139, hx139_0, hx139_1⟩ := at_T24 HR0.out (ji9) p139 q139; obtain rfl : ad137 = ad139 := (by injection e139); have hn139_0 : ad137.block ≠ gb138 := Nat.ne_of_lt (Nat.lt_of_lt_of_le (by have := World.block_lt_of_cell? _ _ hx139_0; first | rwa [add_block] at this | exact this) GW138.out); have hn139_1 : ad137.block ≠ gb138 := Nat.ne_of_lt (Nat.lt_of_lt_of_le (by have := World.block_lt_of_cell? _ _ hx139_0; first | rwa [add_block] at this | exact this) GW138.out); replace hx139_0 := (HB.out.cell (World.block_lt_of_cell? w _ hx139_0)).trans hx139_0; replace hx139_1 := (HB.out.cell (World.block_lt_of_cell? w _ hx139_1)).trans hx139_1; replace hx139_0 := (cell_far (p := ⟨gb138, 0, none⟩) (by first | (rw [add_block]; exact hn139_0) | (show (Addr.add _ _).block ≠ _; rw [add_block]; exact hn139_0) | exact hn139_0) (.int .i64 ((rd_T24 l0 x7_1).f0))).trans hx139_0; replace hx139_1 := (cell_far (p := ⟨gb138, 0, none⟩) (by first | (rw [add_block]; exact hn139_0) | (show (Addr.add _ _).block ≠ _; rw [add_block]; exact hn139_0) | exact hn139_0) (.int .i64 ((rd_T24 l0 x7_1).f0))).trans hx139_1; replace hx139_0 := (cell_far (p := ⟨gb138, 1, none⟩) (by first | (rw [add_block]; exact hn139_1) | (show (Addr.add _ _).block ≠ _; rw [add_block]; exact hn139_1) | exact hn139_1) (.int .i64 ((rd_T24 l0 x7_1).f1))).trans hx139_0; replace hx139_1 := (cell_far (p := ⟨gb138, 1, none⟩) (by first | (rw [add_block]; exact hn139_1) | (show (Addr.add _ _).block ≠ _; rw [add_block]; exact hn139_1) | exact hn139_1) (.int .i64 ((rd_T24 l0 x7_1).f1))).trans hx139_1; (try have hy139_0 := fun (n_ : Nat) => (show ((((w13.drewN n_).setCell ⟨gb138, 0, none⟩ (.int .i64 ((rd_T24 l0 x7_1).f0))).setCell ⟨gb138, 1, none⟩ (.int .i64 ((rd_T24 l0 x7_1).f1)))).cell? _ = some _ from hx139_0)); (try have hy139_1 := fun (n_ : Nat) => (show ((((w13.drewN n_).setCell ⟨gb138, 0, none⟩ (.int .i64 ((rd_T24 l0 x7_1).f0))).setCell ⟨gb138, 1, none⟩ (.int .i64 ((rd_T24 l0 x7_1).f1)))).cell? _ = some _ from hx139_1)); clear hn139_0; clear hn139_1; replace p139 := eq_true p139; replace q139 := eq_true q139)); try go_wp2_with (first | ((with_reducible refine gate_dst (N := 4) rfl ?_); refine box_event ?hg (N := 4) ?hd (cs := #[.int .i64 0, .int .i64 0]) (t := 24) ?hr ?_; (case hd => rfl); (case hg => rfl); (case hr => first | (go_simp; done) | (go_simp; rfl)); intro gb138 hg w13 hbox hb; have n0_ := Aside0.mk (below_step (by repeat (first | (with_reducible first | exact HB.out | apply below_alloc | apply pw_below_drewN | apply below_drew1) | exact HB.out)) hb); have n1_ := Aside0.mk (hbox); have n2_ := Aside0.mk ((by rw [hg]; exact (below_size (by repeat (first | (with_reducible first | exact HB.out | apply below_alloc | apply pw_below_drewN | apply below_drew1) | exact HB.out))) : w.heap.size ≤ gb138)); have n3_ := Aside0.mk ((by rw [hg]; exact (below_size (by repeat (first | (with_reducible first | exact HB.out | apply below_alloc | apply pw_below_drewN | apply below_drew1) | exact HB.out))) : w.heap.size ≤ gb138)); clear HB; have HB := n0_; have BK138 := n1_; have GW138 := n2_; have GE138 := n3_; clear n0_ n1_ n2_ n3_; clear hb hbox hg; have hcz14_0 : w13.cell? ⟨gb138, 0, none⟩ = some (.int .i64 0) := (blk_cell BK138.out 0).trans rfl; have hcz14_1 : w13.cell? ⟨gb138, 1, none⟩ = some (.int .i64 0) := (blk_cell BK138.out 1).trans rfl; have hfz14_0 := blk_frozen BK138.out 0; have hfz14_1 := blk_frozen BK138.out 1; have p139 : 0 ≤ ((ji9) : Int) := of_decide_eq_true (by first | (with_reducible assumption) | assumption); have q139 : (ji9) < (l0.length : Int) := of_decide_eq_true (by first | (with_reducible assumption) | assumption); obtain ⟨ad139, e139, hx139_0, hx139_1⟩ := at_T24 HR0.out (ji9) p139 q139; obtain rfl : ad137 = ad139 := (by injection e139); have hn139_0 : ad137.block ≠ gb138 := Nat.ne_of_lt (Nat.lt_of_lt_of_le (by have := World.block_lt_of_cell? _ _ hx139_0; first | rwa [add_block] at this | exact this) GW138.out); have hn139_1 : ad137.block ≠ gb138 := Nat.ne_of_lt (Nat.lt_of_lt_of_le (by have := World.block_lt_of_cell? _ _ hx139_0; first | rwa [add_block] at this | exact this) GW138.out); replace hx139_0 := (HB.out.cell (World.block_lt_of_cell? w _ hx139_0)).trans hx139_0; replace hx139_1 := (HB.out.cell (World.block_lt_of_cell? w _ hx139_1)).trans hx139_1; replace hx139_0 := (cell_far (p := ⟨gb138, 0, none⟩) (by first | (rw [add_block]; exact hn139_0) | (show (Addr.add _ _).block ≠ _; rw [add_block]; exact hn139_0) | exact hn139_0) (.int .i64 ((rd_T24 l0 x7_1).f0))).trans hx139_0; replace hx139_1 := (cell_far (p := ⟨gb138, 0, none⟩) (by first | (rw [add_block]; exact hn139_0) | (show (Addr.add _ _).block ≠ _; rw [add_block]; exact hn139_0) | exact hn139_0) (.int .i64 ((rd_T24 l0 x7_1).f0))).trans hx139_1; replace hx139_0 := (cell_far (p := ⟨gb138, 1, none⟩) (by first | (rw [add_block]; exact hn139_1) | (show (Addr.add _ _).block ≠ _; rw [add_block]; exact hn139_1) | exact hn139_1) (.int .i64 ((rd_T24 l0 x7_1).f1))).trans hx139_0; replace hx139_1 := (cell_far (p := ⟨gb138, 1, none⟩) (by first | (rw [add_block]; exact hn139_1) | (show (Addr.add _ _).block ≠ _; rw [add_block]; exact hn139_1) | exact hn139_1) (.int .i64 ((rd_T24 l0 x7_1).f1))).trans hx139_1; (try have hy139_0 := fun (n_ : Nat) => (show ((((w13.drewN n_).setCell ⟨gb138, 0, none⟩ (.int .i64 ((rd_T24 l0 x7_1).f0))).setCell ⟨gb138, 1, none⟩ (.int .i64 ((rd_T24 l0 x7_1).f1)))).cell? _ = some _ from hx139_0)); (try have hy139_1 := fun (n_ : Nat) => (show ((((w13.drewN n_).setCell ⟨gb138, 0, none⟩ (.int .i64 ((rd_T24 l0 x7_1).f0))).setCell ⟨gb138, 1, none⟩ (.int .i64 ((rd_T24 l0 x7_1).f1)))).cell? _ = some _ from hx139_1)); clear hn139_0; clear hn139_1; replace p139 := eq_true p139; replace q139 := eq_true q139)))
                      go_ret
                      exact ⟨by first | rfl | (simp [errW_none, errW_some] <;> rfl) | (simp only [← hji9]; first | rfl | (simp [errW_none, errW_some] <;> rfl)) | (simp [*, errW_none, errW_some] <;> rfl), by repeat (first | (with_reducible first | exact HB.out | apply below_alloc | apply pw_below_drewN | apply below_drew1 | refine below_set ?_ GE138.out) | exact HB.out)⟩
                    · rw [if_neg c12] at H
                      have c12b0 : decide (((rd_T24 l0 x7_1).f0) ≤ ((rd_T24 l0 (ji9)).f1)) = false := decide_eq_false c12
                      clear c12
                      have H' := Aside0.mk H
                      clear H
                      have p137 : 0 ≤ (x7_1 : Int) := of_decide_eq_true (by first | (with_reducible assumption) | assumption)
                      have q137 : x7_1 < (l0.length : Int) := of_decide_eq_true (by first | (with_reducible assumption) | assumption)
                      obtain ⟨ad137, e137, hx137_0, hx137_1⟩ := at_T24 HR0.out x7_1 p137 q137
                      cases e137
                      replace hx137_0 := (HB.out.cell (World.block_lt_of_cell? w _ hx137_0)).trans hx137_0
                      replace hx137_1 := (HB.out.cell (World.block_lt_of_cell? w _ hx137_1)).trans hx137_1
                      replace p137 := eq_true p137
                      replace q137 := eq_true q137
                      go_wp2_with (first | ((with_reducible refine gate_dst (N := 4) rfl ?_); refine box_event ?hg (N := 4) ?hd (cs := #[.int .i64 0, .int .i64 0]) (t := 24) ?hr ?_; (case hd => rfl); (case hg => rfl); (case hr => first | (go_simp; done) | (go_simp; rfl)); intro gb138 hg w15 hbox hb; have n0_ := Aside0.mk (below_step (by repeat (first | (with_reducible first | exact HB.out | apply below_alloc | apply pw_below_drewN | apply below_drew1) | exact HB.out)) hb); have n1_ := Aside0.mk (hbox); have n2_ := Aside0.mk ((by rw [hg]; exact (below_size (by repeat (first | (with_reducible first | exact HB.out | apply below_alloc | apply pw_below_drewN | apply below_drew1) | exact HB.out))) : w.heap.size ≤ gb138)); have n3_ := Aside0.mk ((by rw [hg]; exact (below_size (by repeat (first | (with_reducible first | exact HB.out | apply below_alloc | apply pw_below_drewN | apply below_drew1) | exact HB.out))) : w.heap.size ≤ gb138)); clear HB; have HB := n0_; have BK138 := n1_; have GW138 := n2_; have GE138 := n3_; clear n0_ n1_ n2_ n3_; clear hb hbox hg; have hcz16_0 : w15.cell? ⟨gb138, 0, none⟩ = some (.int .i64 0) := (blk_cell BK138.out 0).trans rfl; have hcz16_1 : w15.cell? ⟨gb138, 1, none⟩ = some (.int .i64 0) := (blk_cell BK138.out 1).trans rfl; have hfz16_0 := blk_frozen BK138.out 0; have hfz16_1 := blk_frozen BK138.out 1; have p139 : 0 ≤ ((ji9) : Int) := of_decide_eq_true (by first | (with_reducible assumption) | assumption); have q139 : (ji9) < (l0.length : Int) := of_decide_eq_true (by first | (with_reducible assumption) | assumption); obtain ⟨ad139, e139, hx139_0, hx139_1⟩ := at_T24 HR0.out (ji9) p139 q139; obtain rfl : ad137 = ad139 := (by injection e139); have hn139_0 : ad137.block ≠ gb138 := Nat.ne_of_lt (Nat.lt_of_lt_of_le (by have := World.block_lt_of_cell? _ _ hx139_0; first | rwa [add_block] at this | exact this) GW138.out); have hn139_1 : ad137.block ≠ gb138 := Nat.ne_of_lt (Nat.lt_of_lt_of_le (by have := World.block_lt_of_cell? _ _ hx139_0; first | rwa [add_block] at this | exact this) GW138.out); replace hx139_0 := (HB.out.cell (World.block_lt_of_cell? w _ hx139_0)).trans hx139_0; replace hx139_1 := (HB.out.cell (World.block_lt_of_cell? w _ hx139_1)).trans hx139_1; replace hx139_0 := (cell_far (p := ⟨gb138, 0, none⟩) (by first | (rw [add_block]; exact hn139_0) | (show (Addr.add _ _).block ≠ _; rw [add_block]; exact hn139_0) | exact hn139_0) (.int .i64 ((rd_T24 l0 x7_1).f0))).trans hx139_0; replace hx139_1 := (cell_far (p := ⟨gb138, 0, none⟩) (by first | (rw [add_block]; exact hn139_0) | (show (Addr.add _ _).block ≠ _; rw [add_block]; exact hn139_0) | exact hn139_0) (.int .i64 ((rd_T24 l0 x7_1).f0))).trans hx139_1; replace hx139_0 := (cell_far (p := ⟨gb138, 1, none⟩) (by first | (rw [add_block]; exact hn139_1) | (show (Addr.add _ _).block ≠ _; rw [add_block]; exact hn139_1) | exact hn139_1) (.int .i64 ((rd_T24 l0 x7_1).f1))).trans hx139_0; replace hx139_1 := (cell_far (p := ⟨gb138, 1, none⟩) (by first | (rw [add_block]; exact hn139_1) | (show (Addr.add _ _).block ≠ _; rw [add_block]; exact hn139_1) | exact hn139_1) (.int .i64 ((rd_T24 l0 x7_1).f1))).trans hx139_1; (try have hy139_0 := fun (n_ : Nat) => (show ((((w15.drewN n_).setCell ⟨gb138, 0, none⟩ (.int .i64 ((rd_T24 l0 x7_1).f0))).setCell ⟨gb138, 1, none⟩ (.int .i64 ((rd_T24 l0 x7_1).f1)))).cell? _ = some _ from hx139_0)); (try have hy139_1 := fun (n_ : Nat) => (show ((((w15.drewN n_).setCell ⟨gb138, 0, none⟩ (.int .i64 ((rd_T24 l0 x7_1).f0))).setCell ⟨gb138, 1, none⟩ (.int .i64 ((rd_T24 l0 x7_1).f1)))).cell? _ = some _ from hx139_1)); clear hn139_0; clear hn139_1; replace p139 := eq_true p139; replace q139 := eq_true q139))
                      repeat (go_quiet (first | ((with_reducible refine gate_dst (N := 4) rfl ?_); refine box_event ?hg (N := 4) ?hd (cs := #[.int .i64 0, .int .i64 0]) (t := 24) ?hr ?_; (case hd => rfl); (case hg => rfl); (case hr => first | (go_simp; done) | (go_simp; rfl)); intro gb138 hg w15 hbox hb; have n0_ := Aside0.mk (below_step (by repeat (first | (with_reducible first | exact HB.out | apply below_alloc | apply pw_below_drewN | apply below_drew1) | exact HB.out)) hb); have n1_ := Aside0.mk (hbox); have n2_ := Aside0.mk ((by rw [hg]; exact (below_size (by repeat (first | (with_reducible first | exact HB.out | apply below_alloc | apply pw_below_drewN | apply below_drew1) | exact HB.out))) : w.heap.size ≤ gb138)); have n3_ := Aside0.mk ((by rw [hg]; exact (below_size (by repeat (first | (with_reducible first | exact HB.out | apply below_alloc | apply pw_below_drewN | apply below_drew1) | exact HB.out))) : w.heap.size ≤ gb138)); clear HB; have HB := n0_; have BK138 := n1_; have GW138 := n2_; have GE138 := n3_; clear n0_ n1_ n2_ n3_; clear hb hbox hg; have hcz16_0 : w15.cell? ⟨gb138, 0, none⟩ = some (.int .i64 0) := (blk_cell BK138.out 0).trans rfl; have hcz16_1 : w15.cell? ⟨gb138, 1, none⟩ = some (.int .i64 0) := (blk_cell BK138.out 1).trans rfl; have hfz16_0 := blk_frozen BK138.out 0; have hfz16_1 := blk_frozen BK138.out 1; have p139 : 0 ≤ ((ji9) : Int) := of_decide_eq_true (by first | (with_reducible assumption) | assumption); have q139 : (ji9) < (l0.length : Int) := of_decide_eq_true (by first | (with_reducible assumption) | assumption); obtain ⟨ad139, e139, hx139_0, hx139_1⟩ := at_T24 HR0.out (ji9) p139 q139; obtain rfl : ad137 = ad139 := (by injection e139); have hn139_0 : ad137.block ≠ gb138 := Nat.ne_of_lt (Nat.lt_of_lt_of_le (by have := World.block_lt_of_cell? _ _ hx139_0; first | rwa [add_block] at this | exact this) GW138.out); have hn139_1 : ad137.block ≠ gb138 := Nat.ne_of_lt (Nat.lt_of_lt_of_le (by have := World.block_lt_of_cell? _ _ hx139_0; first | rwa [add_block] at this | exact this) GW138.out); replace hx139_0 := (HB.out.cell (World.block_lt_of_cell? w _ hx139_0)).trans hx139_0; replace hx139_1 := (HB.out.cell (World.block_lt_of_cell? w _ hx139_1)).trans hx139_1; replace hx139_0 := (cell_far (p := ⟨gb138, 0, none⟩) (by first | (rw [add_block]; exact hn139_0) | (show (Addr.add _ _).block ≠ _; rw [add_block]; exact hn139_0) | exact hn139_0) (.int .i64 ((rd_T24 l0 x7_1).f0))).trans hx139_0; replace hx139_1 := (cell_far (p := ⟨gb138, 0, none⟩) (by first | (rw [add_block]; exact hn139_0) | (show (Addr.add _ _).block ≠ _; rw [add_block]; exact hn139_0) | exact hn139_0) (.int .i64 ((rd_T24 l0 x7_1).f0))).trans hx139_1; replace hx139_0 := (cell_far (p := ⟨gb138, 1, none⟩) (by first | (rw [add_block]; exact hn139_1) | (show (Addr.add _ _).block ≠ _; rw [add_block]; exact hn139_1) | exact hn139_1) (.int .i64 ((rd_T24 l0 x7_1).f1))).trans hx139_0; replace hx139_1 := (cell_far (p := ⟨gb138, 1, none⟩) (by first | (rw [add_block]; exact hn139_1) | (show (Addr.add _ _).block ≠ _; rw [add_block]; exact hn139_1) | exact hn139_1) (.int .i64 ((rd_T24 l0 x7_1).f1))).trans hx139_1; (try have hy139_0 := fun (n_ : Nat) => (show ((((w15.drewN n_).setCell ⟨gb138, 0, none⟩ (.int .i64 ((rd_T24 l0 x7_1).f0))).setCell ⟨gb138, 1, none⟩ (.int .i64 ((rd_T24 l0 x7_1).f1)))).cell? _ = some _ from hx139_0)); (try have hy139_1 := fun (n_ : Nat) => (show ((((w15.drewN n_).setCell ⟨gb138, 0, none⟩ (.int .i64 ((rd_T24 l0 x7_1).f0))).setCell ⟨gb138, 1, none⟩ (.int .i64 ((rd_T24 l0 x7_1).f1)))).cell? _ = some _ from hx139_1)); clear hn139_0; clear hn139_1; replace p139 := eq_true p139; replace q139 := eq_true q139)); try go_wp2_with (first | ((with_reducible refine gate_dst (N := 4) rfl ?_); refine box_event ?hg (N := 4) ?hd (cs := #[.int .i64 0, .int .i64 0]) (t := 24) ?hr ?_; (case hd => rfl); (case hg => rfl); (case hr => first | (go_simp; done) | (go_simp; rfl)); intro gb138 hg w15 hbox hb; have n0_ := Aside0.mk (below_step (by repeat (first | (with_reducible first | exact HB.out | apply below_alloc | apply pw_below_drewN | apply below_drew1) | exact HB.out)) hb); have n1_ := Aside0.mk (hbox); have n2_ := Aside0.mk ((by rw [hg]; exact (below_size (by repeat (first | (with_reducible first | exact HB.out | apply below_alloc | apply pw_below_drewN | apply below_drew1) | exact HB.out))) : w.heap.size ≤ gb138)); have n3_ := Aside0.mk ((by rw [hg]; exact (below_size (by repeat (first | (with_reducible first | exact HB.out | apply below_alloc | apply pw_below_drewN | apply below_drew1) | exact HB.out))) : w.heap.size ≤ gb138)); clear HB; have HB := n0_; have BK138 := n1_; have GW138 := n2_; have GE138 := n3_; clear n0_ n1_ n2_ n3_; clear hb hbox hg; have hcz16_0 : w15.cell? ⟨gb138, 0, none⟩ = some (.int .i64 0) := (blk_cell BK138.out 0).trans rfl; have hcz16_1 : w15.cell? ⟨gb138, 1, none⟩ = some (.int .i64 0) := (blk_cell BK138.out 1).trans rfl; have hfz16_0 := blk_frozen BK138.out 0; have hfz16_1 := blk_frozen BK138.out 1; have p139 : 0 ≤ ((ji9) : Int) := of_decide_eq_true (by first | (with_reducible assumption) | assumption); have q139 : (ji9) < (l0.length : Int) := of_decide_eq_true (by first | (with_reducible assumption) | assumption); obtain ⟨ad139, e139, hx139_0, hx139_1⟩ := at_T24 HR0.out (ji9) p139 q139; obtain rfl : ad137 = ad139 := (by injection e139); have hn139_0 : ad137.block ≠ gb138 := Nat.ne_of_lt (Nat.lt_of_lt_of_le (by have := World.block_lt_of_cell? _ _ hx139_0; first | rwa [add_block] at this | exact this) GW138.out); have hn139_1 : ad137.block ≠ gb138 := Nat.ne_of_lt (Nat.lt_of_lt_of_le (by have := World.block_lt_of_cell? _ _ hx139_0; first | rwa [add_block] at this | exact this) GW138.out); replace hx139_0 := (HB.out.cell (World.block_lt_of_cell? w _ hx139_0)).trans hx139_0; replace hx139_1 := (HB.out.cell (World.block_lt_of_cell? w _ hx139_1)).trans hx139_1; replace hx139_0 := (cell_far (p := ⟨gb138, 0, none⟩) (by first | (rw [add_block]; exact hn139_0) | (show (Addr.add _ _).block ≠ _; rw [add_block]; exact hn139_0) | exact hn139_0) (.int .i64 ((rd_T24 l0 x7_1).f0))).trans hx139_0; replace hx139_1 := (cell_far (p := ⟨gb138, 0, none⟩) (by first | (rw [add_block]; exact hn139_0) | (show (Addr.add _ _).block ≠ _; rw [add_block]; exact hn139_0) | exact hn139_0) (.int .i64 ((rd_T24 l0 x7_1).f0))).trans hx139_1; replace hx139_0 := (cell_far (p := ⟨gb138, 1, none⟩) (by first | (rw [add_block]; exact hn139_1) | (show (Addr.add _ _).block ≠ _; rw [add_block]; exact hn139_1) | exact hn139_1) (.int .i64 ((rd_T24 l0 x7_1).f1))).trans hx139_0; replace hx139_1 := (cell_far (p := ⟨gb138, 1, none⟩) (by first | (rw [add_block]; exact hn139_1) | (show (Addr.add _ _).block ≠ _; rw [add_block]; exact hn139_1) | exact hn139_1) (.int .i64 ((rd_T24 l0 x7_1).f1))).trans hx139_1; (try have hy139_0 := fun (n_ : Nat) => (show ((((w15.drewN n_).setCell ⟨gb138, 0, none⟩ (.int .i64 ((rd_T24 l0 x7_1).f0))).setCell ⟨gb138, 1, none⟩ (.int .i64 ((rd_T24 l0 x7_1).f1)))).cell? _ = some _ from hx139_0)); (try have hy139_1 := fun (n_ : Nat) => (show ((((w15.drewN n_).setCell ⟨gb138, 0, none⟩ (.int .i64 ((rd_T24 l0 x7_1).f0))).setCell ⟨gb138, 1, none⟩ (.int .i64 ((rd_T24 l0 x7_1).f1)))).cell? _ = some _ from hx139_1)); clear hn139_0; clear hn139_1; replace p139 := eq_true p139; replace q139 := eq_true q139)))
                      go_roundg k1
                      case measure => have := HK1.out; omega
                      case rel => exact ⟨(wrap64 (x7_1 + 1)), (by first | rfl | (simp; done) | (simp [*]; done)), H', ⟨by have := HK1.out; omega⟩, ⟨by repeat (first | (with_reducible first | exact HB.out | apply below_alloc | apply pw_below_drewN | apply below_drew1 | refine below_set ?_ GE138.out) | exact HB.out)⟩⟩
                  · rw [if_neg c11] at H
                    exact absurd H (by simp)
                · rw [if_neg c10] at H
                  exact absurd H (by simp)
              · rw [if_neg c8] at H
                have c8b0 : decide (0 < x7_1) = false := decide_eq_false c8
                clear c8
                have H' := Aside0.mk H
                clear H
                have p137 : 0 ≤ (x7_1 : Int) := of_decide_eq_true (by first | (with_reducible assumption) | assumption)
                have q137 : x7_1 < (l0.length : Int) := of_decide_eq_true (by first | (with_reducible assumption) | assumption)
                obtain ⟨ad137, e137, hx137_0, hx137_1⟩ := at_T24 HR0.out x7_1 p137 q137
                cases e137
                replace hx137_0 := (HB.out.cell (World.block_lt_of_cell? w _ hx137_0)).trans hx137_0
                replace hx137_1 := (HB.out.cell (World.block_lt_of_cell? w _ hx137_1)).trans hx137_1
                replace p137 := eq_true p137
                replace q137 := eq_true q137
                go_wp2_with (first | ((with_reducible refine gate_dst (N := 4) rfl ?_); refine box_event ?hg (N := 4) ?hd (cs := #[.int .i64 0, .int .i64 0]) (t := 24) ?hr ?_; (case hd => rfl); (case hg => rfl); (case hr => first | (go_simp; done) | (go_simp; rfl)); intro gb138 hg w17 hbox hb; have n0_ := Aside0.mk (below_step (by repeat (first | (with_reducible first | exact HB.out | apply below_alloc | apply pw_below_drewN | apply below_drew1) | exact HB.out)) hb); have n1_ := Aside0.mk (hbox); have n2_ := Aside0.mk ((by rw [hg]; exact (below_size (by repeat (first | (with_reducible first | exact HB.out | apply below_alloc | apply pw_below_drewN | apply below_drew1) | exact HB.out))) : w.heap.size ≤ gb138)); have n3_ := Aside0.mk ((by rw [hg]; exact (below_size (by repeat (first | (with_reducible first | exact HB.out | apply below_alloc | apply pw_below_drewN | apply below_drew1) | exact HB.out))) : w.heap.size ≤ gb138)); clear HB; have HB := n0_; have BK138 := n1_; have GW138 := n2_; have GE138 := n3_; clear n0_ n1_ n2_ n3_; clear hb hbox hg; have hcz18_0 : w17.cell? ⟨gb138, 0, none⟩ = some (.int .i64 0) := (blk_cell BK138.out 0).trans rfl; have hcz18_1 : w17.cell? ⟨gb138, 1, none⟩ = some (.int .i64 0) := (blk_cell BK138.out 1).trans rfl; have hfz18_0 := blk_frozen BK138.out 0; have hfz18_1 := blk_frozen BK138.out 1))
                repeat (go_quiet (first | ((with_reducible refine gate_dst (N := 4) rfl ?_); refine box_event ?hg (N := 4) ?hd (cs := #[.int .i64 0, .int .i64 0]) (t := 24) ?hr ?_; (case hd => rfl); (case hg => rfl); (case hr => first | (go_simp; done) | (go_simp; rfl)); intro gb138 hg w17 hbox hb; have n0_ := Aside0.mk (below_step (by repeat (first | (with_reducible first | exact HB.out | apply below_alloc | apply pw_below_drewN | apply below_drew1) | exact HB.out)) hb); have n1_ := Aside0.mk (hbox); have n2_ := Aside0.mk ((by rw [hg]; exact (below_size (by repeat (first | (with_reducible first | exact HB.out | apply below_alloc | apply pw_below_drewN | apply below_drew1) | exact HB.out))) : w.heap.size ≤ gb138)); have n3_ := Aside0.mk ((by rw [hg]; exact (below_size (by repeat (first | (with_reducible first | exact HB.out | apply below_alloc | apply pw_below_drewN | apply below_drew1) | exact HB.out))) : w.heap.size ≤ gb138)); clear HB; have HB := n0_; have BK138 := n1_; have GW138 := n2_; have GE138 := n3_; clear n0_ n1_ n2_ n3_; clear hb hbox hg; have hcz18_0 : w17.cell? ⟨gb138, 0, none⟩ = some (.int .i64 0) := (blk_cell BK138.out 0).trans rfl; have hcz18_1 : w17.cell? ⟨gb138, 1, none⟩ = some (.int .i64 0) := (blk_cell BK138.out 1).trans rfl; have hfz18_0 := blk_frozen BK138.out 0; have hfz18_1 := blk_frozen BK138.out 1)); try go_wp2_with (first | ((with_reducible refine gate_dst (N := 4) rfl ?_); refine box_event ?hg (N := 4) ?hd (cs := #[.int .i64 0, .int .i64 0]) (t := 24) ?hr ?_; (case hd => rfl); (case hg => rfl); (case hr => first | (go_simp; done) | (go_simp; rfl)); intro gb138 hg w17 hbox hb; have n0_ := Aside0.mk (below_step (by repeat (first | (with_reducible first | exact HB.out | apply below_alloc | apply pw_below_drewN | apply below_drew1) | exact HB.out)) hb); have n1_ := Aside0.mk (hbox); have n2_ := Aside0.mk ((by rw [hg]; exact (below_size (by repeat (first | (with_reducible first | exact HB.out | apply below_alloc | apply pw_below_drewN | apply below_drew1) | exact HB.out))) : w.heap.size ≤ gb138)); have n3_ := Aside0.mk ((by rw [hg]; exact (below_size (by repeat (first | (with_reducible first | exact HB.out | apply below_alloc | apply pw_below_drewN | apply below_drew1) | exact HB.out))) : w.heap.size ≤ gb138)); clear HB; have HB := n0_; have BK138 := n1_; have GW138 := n2_; have GE138 := n3_; clear n0_ n1_ n2_ n3_; clear hb hbox hg; have hcz18_0 : w17.cell? ⟨gb138, 0, none⟩ = some (.int .i64 0) := (blk_cell BK138.out 0).trans rfl; have hcz18_1 : w17.cell? ⟨gb138, 1, none⟩ = some (.int .i64 0) := (blk_cell BK138.out 1).trans rfl; have hfz18_0 := blk_frozen BK138.out 0; have hfz18_1 := blk_frozen BK138.out 1)))
                go_roundg k1
                case measure => have := HK1.out; omega
                case rel => exact ⟨(wrap64 (x7_1 + 1)), (by first | rfl | (simp; done) | (simp [*]; done)), H', ⟨by have := HK1.out; omega⟩, ⟨by repeat (first | (with_reducible first | exact HB.out | apply below_alloc | apply pw_below_drewN | apply below_drew1 | refine below_set ?_ GE138.out) | exact HB.out)⟩⟩
          · rw [if_neg c4] at H
            exact absurd H (by simp)
        · rw [if_neg c3] at H
          exact absurd H (by simp)
      · rw [if_neg c2] at H
        have c2b0 : decide (x7_1 < (l0.length : Int)) = false := decide_eq_false c2
        clear c2
        obtain rfl := Option.some.inj H
        go_wp2
        repeat (go_quiet (fail); try go_wp2)
        go_ret
        exact ⟨by first | rfl | (simp [errW_none, errW_some] <;> rfl) | (simp [*, errW_none, errW_some] <;> rfl), by repeat (first | (with_reducible first | exact HB.out | apply below_alloc | apply pw_below_drewN | apply below_drew1) | exact HB.out)⟩

/-! ### spec_NoneInside: function 14 -/
mutual
def spec_NoneInside.l0 : Nat → List (S24) → List (S24) → Int → Int → Option (Bool)
  | 0, _, _, _, _ => none
  | k + 1, x1, x9, x10, x11 => if x11 < x10 then (if 0 ≤ x11 then (if x11 < (x9.length : Int) then (spec_NoneInside.l1 k x1 x9 x10 x11 x1 (x1.length : Int) 0 ((rd_T24 x9 x11).f0) ((rd_T24 x9 x11).f1)) else (none)) else (none)) else (some true)
def spec_NoneInside.l1 : Nat → List (S24) → List (S24) → Int → Int → List (S24) → Int → Int → Int → Int → Option (Bool)
  | 0, _, _, _, _, _, _, _, _, _ => none
  | k + 1, x1, x9, x10, x11, x15, x16, x17, x142000, x142001 => if x17 < x16 then (if 0 ≤ x17 then (if x17 < (x15.length : Int) then (if x142000 ≤ ((rd_T24 x15 x17).f0) then (if ((rd_T24 x15 x17).f1) < x142001 then (some false) else (if ((rd_T24 x15 x17).f0) ≤ x142000 then (if x142001 < ((rd_T24 x15 x17).f1) then (some false) else (spec_NoneInside.l1 k x1 x9 x10 x11 x15 x16 (wrap64 (x17 + 1)) x142000 x142001)) else (spec_NoneInside.l1 k x1 x9 x10 x11 x15 x16 (wrap64 (x17 + 1)) x142000 x142001))) else (if ((rd_T24 x15 x17).f0) ≤ x142000 then (if x142001 < ((rd_T24 x15 x17).f1) then (some false) else (spec_NoneInside.l1 k x1 x9 x10 x11 x15 x16 (wrap64 (x17 + 1)) x142000 x142001)) else (spec_NoneInside.l1 k x1 x9 x10 x11 x15 x16 (wrap64 (x17 + 1)) x142000 x142001))) else (none)) else (none)) else (spec_NoneInside.l0 k x1 x9 x10 (wrap64 (x11 + 1)))
end
def spec_NoneInside.f (k : Nat) (l0 : List (S24)) (l1 : List (S24)) : Option (Bool) := spec_NoneInside.l0 k l1 l0 (l0.length : Int) 0
theorem spec_NoneInside.mono_l : ∀ k, (∀ y0 y1 y2 y3, LeO (spec_NoneInside.l0 k y0 y1 y2 y3) (spec_NoneInside.l0 (k + 1) y0 y1 y2 y3)) ∧ (∀ y0 y1 y2 y3 y4 y5 y6 y7 y8, LeO (spec_NoneInside.l1 k y0 y1 y2 y3 y4 y5 y6 y7 y8) (spec_NoneInside.l1 (k + 1) y0 y1 y2 y3 y4 y5 y6 y7 y8))
  | 0 => ⟨fun _ _ _ _ r h => by simp [spec_NoneInside.l0] at h, fun _ _ _ _ _ _ _ _ _ r h => by simp [spec_NoneInside.l1] at h⟩
  | k + 1 => by
    obtain ⟨ih0, ih1⟩ := spec_NoneInside.mono_l k
    refine ⟨?_, ?_⟩
    · intro y0 y1 y2 y3
      unfold spec_NoneInside.l0
      repeat' first
      | (with_reducible exact ih0 _ _ _ _)
      | (with_reducible exact ih1 _ _ _ _ _ _ _ _ _)
      | (with_reducible exact LeO.refl _)
      | (with_reducible exact LeO.none _)
      | (with_reducible refine LeO.ite ?_ ?_)
      | (with_reducible refine LeO.bind ?_ (fun _ => ?_))
      | exact ih0 _ _ _ _
      | exact ih1 _ _ _ _ _ _ _ _ _
      | exact LeO.none _
      | refine LeO.ite ?_ ?_
      | refine LeO.bind ?_ (fun _ => ?_)
    · intro y0 y1 y2 y3 y4 y5 y6 y7 y8
      unfold spec_NoneInside.l1
      repeat' first
      | (with_reducible exact ih0 _ _ _ _)
      | (with_reducible exact ih1 _ _ _ _ _ _ _ _ _)
      | (with_reducible exact LeO.refl _)
      | (with_reducible exact LeO.none _)
      | (with_reducible refine LeO.ite ?_ ?_)
      | (with_reducible refine LeO.bind ?_ (fun _ => ?_))
      | exact ih0 _ _ _ _
      | exact ih1 _ _ _ _ _ _ _ _ _
      | exact LeO.none _
      | refine LeO.ite ?_ ?_
      | refine LeO.bind ?_ (fun _ => ?_)
theorem spec_NoneInside.mono : ∀ a0 a1 k, LeO (spec_NoneInside.f k a0 a1) (spec_NoneInside.f (k + 1) a0 a1) := by
  intro a0 a1 k
  obtain ⟨ih0, ih1⟩ := spec_NoneInside.mono_l k
  unfold spec_NoneInside.f
  repeat' first
      | (with_reducible exact ih0 _ _ _ _)
      | (with_reducible exact ih1 _ _ _ _ _ _ _ _ _)
      | (with_reducible exact LeO.refl _)
      | (with_reducible exact LeO.none _)
      | (with_reducible refine LeO.ite ?_ ?_)
      | (with_reducible refine LeO.bind ?_ (fun _ => ?_))
      | exact ih0 _ _ _ _
      | exact ih1 _ _ _ _ _ _ _ _ _
      | exact LeO.none _
      | refine LeO.ite ?_ ?_
      | refine LeO.bind ?_ (fun _ => ?_)
set_option maxHeartbeats 8000000 in
set_option maxRecDepth 100000 in
theorem spec_NoneInside.calls (k : Nat) (A0 : Option Addr) (c0 : Nat) (l0 : List (S24)) (A1 : Option Addr) (c1 : Nat) (l1 : List (S24)) (r : Bool) (w : World) (hr0 : Kd.C k24 w A0 l0.length l0) (hc0 : l0.length ≤ c0) (hr1 : Kd.C k24 w A1 l1.length l1) (hc1 : l1.length ≤ c1) (h : spec_NoneInside.f k l0 l1 = some r) :
    Calls Try.prog 14 #[.slice A0 l0.length c0, .slice A1 l1.length c1] w fun e w' => e = .returned (.bool r) ∧ Below w.heap.size w w' := by
  have hu24 := Try.underlying24
  have HR0 := Aside0.mk hr0
  have HC0 := Aside0.mk hc0
  clear hr0 hc0
  have HR1 := Aside0.mk hr1
  have HC1 := Aside0.mk hc1
  clear hr1 hc1
  have HB := Aside0.mk (Below.refl w.heap.size w)
  have H : (spec_NoneInside.l0 k l1 l0 (l0.length : Int) 0) = some r := h
  clear h
  have H' := Aside0.mk H
  clear H
  go_enter Try.func14, Try.ntmps14
  go_wp2
  go_loopg [11] k (fun kq v11 w' => ∃ (x11_1 : Int), v11 = .int .i64 x11_1 ∧ Aside0 (spec_NoneInside.l0 kq l1 l0 (l0.length : Int) x11_1 = some r) ∧ Aside0 (kq ≤ k) ∧ Aside0 (Below w.heap.size w w'))
  case atStart => exact ⟨(0), (by first | rfl | (simp; done) | (simp [*]; done)), H', ⟨Nat.le_refl _⟩, ⟨by repeat (first | (with_reducible first | exact HB.out | apply below_alloc | apply pw_below_drewN | apply below_drew1) | exact HB.out)⟩⟩
  case round =>
    clear H'
    try clear c1
    try clear p2
    obtain ⟨x11_1, rfl, HA, HK1, HB⟩ := hrel
    cases gk with
    | zero => exact absurd HA.out (by simp [spec_NoneInside.l0])
    | succ k1 =>
      have H := HA.out
      clear HA
      simp only [spec_NoneInside.l0] at H
      by_cases c3 : x11_1 < (l0.length : Int)
      · rw [if_pos c3] at H
        have c3b0 : decide (x11_1 < (l0.length : Int)) = true := decide_eq_true c3
        clear c3
        by_cases c4 : 0 ≤ x11_1
        · rw [if_pos c4] at H
          have c4b0 : decide (0 ≤ x11_1) = true := decide_eq_true c4
          clear c4
          by_cases c5 : x11_1 < (l0.length : Int)
          · rw [if_pos c5] at H
            have c5b0 : decide (x11_1 < (l0.length : Int)) = true := decide_eq_true c5
            clear c5
            have H' := Aside0.mk H
            clear H
            have p140 : 0 ≤ (x11_1 : Int) := of_decide_eq_true (by first | (with_reducible assumption) | assumption)
            have q140 : x11_1 < (l0.length : Int) := of_decide_eq_true (by first | (with_reducible assumption) | assumption)
            obtain ⟨ad140, e140, hx140_0, hx140_1⟩ := at_T24 HR0.out x11_1 p140 q140
            cases e140
            replace hx140_0 := (HB.out.cell (World.block_lt_of_cell? w _ hx140_0)).trans hx140_0
            replace hx140_1 := (HB.out.cell (World.block_lt_of_cell? w _ hx140_1)).trans hx140_1
            replace p140 := eq_true p140
            replace q140 := eq_true q140
            go_wp2_with (first | ((with_reducible refine gate_dst (N := 6) rfl ?_); refine box_event ?hg (N := 6) ?hd (cs := #[.int .i64 0, .int .i64 0]) (t := 24) ?hr ?_; (case hd => rfl); (case hg => rfl); (case hr => first | (go_simp; done) | (go_simp; rfl)); intro gb141 hg w6 hbox hb; have n0_ := Aside0.mk (below_step (by repeat (first | (with_reducible first | exact HB.out | apply below_alloc | apply pw_below_drewN | apply below_drew1) | exact HB.out)) hb); have n1_ := Aside0.mk (hbox); have n2_ := Aside0.mk ((by rw [hg]; exact (below_size (by repeat (first | (with_reducible first | exact HB.out | apply below_alloc | apply pw_below_drewN | apply below_drew1) | exact HB.out))) : w.heap.size ≤ gb141)); have n3_ := Aside0.mk ((by rw [hg]; exact (below_size (by repeat (first | (with_reducible first | exact HB.out | apply below_alloc | apply pw_below_drewN | apply below_drew1) | exact HB.out))) : w.heap.size ≤ gb141)); clear HB; have HB := n0_; have BK141 := n1_; have GW141 := n2_; have GE141 := n3_; clear n0_ n1_ n2_ n3_; clear hb hbox hg; have hcz7_0 : w6.cell? ⟨gb141, 0, none⟩ = some (.int .i64 0) := (blk_cell BK141.out 0).trans rfl; have hcz7_1 : w6.cell? ⟨gb141, 1, none⟩ = some (.int .i64 0) := (blk_cell BK141.out 1).trans rfl; have hfz7_0 := blk_frozen BK141.out 0; have hfz7_1 := blk_frozen BK141.out 1))
            go_loopg [17] k1 (fun kq v17 w' => ∃ (x17_2 : Int), v17 = .int .i64 x17_2 ∧ Aside0 (spec_NoneInside.l1 kq l1 l0 (l0.length : Int) x11_1 l1 (l1.length : Int) x17_2 ((rd_T24 l0 x11_1).f0) ((rd_T24 l0 x11_1).f1) = some r) ∧ Aside0 (kq ≤ k1) ∧ Aside0 (w'.heap[gb141]? = some (.cells #[.int .i64 ((rd_T24 l0 x11_1).f0), .int .i64 ((rd_T24 l0 x11_1).f1)] 24 (0, 0))) ∧ Aside0 (Below w.heap.size w w'))
            case atStart => exact ⟨(0), (by first | rfl | (simp; done) | (simp [*]; done)), H', ⟨Nat.le_refl _⟩, ⟨by (with_reducible repeat (first | refine blk_drewN ?_ _ | refine blk_drew ?_ | refine blk_alloc ?_ _)); refine blk_put (cs := #[.int .i64 ((rd_T24 l0 x11_1).f0), .int .i64 0]) ?_ 1 _ rfl; (with_reducible repeat (first | refine blk_drewN ?_ _ | refine blk_drew ?_ | refine blk_alloc ?_ _)); refine blk_put (cs := #[.int .i64 0, .int .i64 0]) ?_ 0 _ rfl; (with_reducible repeat (first | refine blk_drewN ?_ _ | refine blk_drew ?_ | refine blk_alloc ?_ _)); exact BK141.out⟩, ⟨by repeat (first | (with_reducible first | exact HB.out | apply below_alloc | apply pw_below_drewN | apply below_drew1 | refine below_set ?_ GE141.out) | exact HB.out)⟩⟩
            case round =>
              clear H'
              try clear c1
              try clear p1
              try clear q1
              try clear hx1
              try clear p2
              try clear c3
              try clear c3b0
              try clear c4
              try clear c4b0
              try clear c5
              try clear c5b0
              try clear hcz7_0
              try clear hcz7_1
              try clear hfz7_0
              try clear hfz7_1
              try clear hx140_0
              try clear hx140_1
              try clear p140
              try clear p2
              try clear q140
              obtain ⟨x17_2, rfl, HA, HK2, BK141, HB⟩ := hrel
              cases gk with
              | zero => exact absurd HA.out (by simp [spec_NoneInside.l1])
              | succ k2 =>
                have H := HA.out
                clear HA
                simp only [spec_NoneInside.l1] at H
                by_cases c8 : x17_2 < (l1.length : Int)
                · rw [if_pos c8] at H
                  have c8b0 : decide (x17_2 < (l1.length : Int)) = true := decide_eq_true c8
                  clear c8
                  by_cases c9 : 0 ≤ x17_2
                  · rw [if_pos c9] at H
                    have c9b0 : decide (0 ≤ x17_2) = true := decide_eq_true c9
                    clear c9
                    by_cases c10 : x17_2 < (l1.length : Int)
                    · rw [if_pos c10] at H
                      have c10b0 : decide (x17_2 < (l1.length : Int)) = true := decide_eq_true c10
                      clear c10
                      by_cases c11 : ((rd_T24 l0 x11_1).f0) ≤ ((rd_T24 l1 x17_2).f0)
                      · rw [if_pos c11] at H
                        have c11b0 : decide (((rd_T24 l0 x11_1).f0) ≤ ((rd_T24 l1 x17_2).f0)) = true := decide_eq_true c11
                        clear c11
                        by_cases c12 : ((rd_T24 l1 x17_2).f1) < ((rd_T24 l0 x11_1).f1)
                        · rw [if_pos c12] at H
                          have c12b0 : decide (((rd_T24 l1 x17_2).f1) < ((rd_T24 l0 x11_1).f1)) = true := decide_eq_true c12
                          clear c12
                          obtain rfl := Option.some.inj H
                          have p142 : 0 ≤ (x17_2 : Int) := of_decide_eq_true (by first | (with_reducible assumption) | assumption)
                          have q142 : x17_2 < (l1.length : Int) := of_decide_eq_true (by first | (with_reducible assumption) | assumption)
                          obtain ⟨ad142, e142, hx142_0, hx142_1⟩ := at_T24 HR1.out x17_2 p142 q142
                          cases e142
                          replace hx142_0 := (HB.out.cell (World.block_lt_of_cell? w _ hx142_0)).trans hx142_0
                          replace hx142_1 := (HB.out.cell (World.block_lt_of_cell? w _ hx142_1)).trans hx142_1
                          replace p142 := eq_true p142
                          replace q142 := eq_true q142
                          go_wp2_with (first | ((with_reducible refine gate_dst (N := 8) rfl ?_); refine box_event ?hg (N := 8) ?hd (cs := #[.int .i64 0, .int .i64 0]) (t := 24) ?hr ?_; (case hd => rfl); (case hg => rfl); (case hr => first | (go_simp; done) | (go_simp; rfl)); intro gb143 hg w13 hbox hb; have n0_ := Aside0.mk (blk_below (g := gb141) (o := .cells #[.int .i64 ((rd_T24 l0 x11_1).f0), .int .i64 ((rd_T24 l0 x11_1).f1)] 24 (0, 0)) (by (with_reducible repeat (first | refine blk_drewN ?_ _ | refine blk_drew ?_ | refine blk_alloc ?_ _)); exact BK141.out) hb); have n1_ := Aside0.mk (below_step (by repeat (first | (with_reducible first | exact HB.out | apply below_alloc | apply pw_below_drewN | apply below_drew1 | refine below_set ?_ GE141.out) | exact HB.out)) hb); have n2_ := Aside0.mk (hbox); have n3_ := Aside0.mk ((by rw [hg]; exact (below_size (by repeat (first | (with_reducible first | exact HB.out | apply below_alloc | apply pw_below_drewN | apply below_drew1 | refine below_set ?_ GE141.out) | exact HB.out))) : w.heap.size ≤ gb143)); have n4_ := Aside0.mk ((by rw [hg]; exact (below_size (by repeat (first | (with_reducible first | exact HB.out | apply below_alloc | apply pw_below_drewN | apply below_drew1 | refine below_set ?_ GE141.out) | exact HB.out))) : w.heap.size ≤ gb143)); have n5_ := Aside0.mk ((by rw [hg]; exact Nat.ne_of_lt (blk_lt (g := gb141) (o := .cells #[.int .i64 ((rd_T24 l0 x11_1).f0), .int .i64 ((rd_T24 l0 x11_1).f1)] 24 (0, 0)) (by (with_reducible repeat (first | refine blk_drewN ?_ _ | refine blk_drew ?_ | refine blk_alloc ?_ _)); exact BK141.out)) : gb141 ≠ gb143)); have n6_ := Aside0.mk ((by rw [hg]; exact Nat.ne_of_gt (blk_lt (g := gb141) (o := .cells #[.int .i64 ((rd_T24 l0 x11_1).f0), .int .i64 ((rd_T24 l0 x11_1).f1)] 24 (0, 0)) (by (with_reducible repeat (first | refine blk_drewN ?_ _ | refine blk_drew ?_ | refine blk_alloc ?_ _)); exact BK141.out)) : gb143 ≠ gb141)); clear BK141; clear HB; have BK141 := n0_; have HB := n1_; have BK143 := n2_; have GW143 := n3_; have GE143 := n4_; have NB141_143 := n5_; have NB143_141 := n6_; clear n0_ n1_ n2_ n3_ n4_ n5_ n6_; clear hb hbox hg; have hnb14 := NB143_141.out; have hnc14 := NB141_143.out; have hcz15_0 : w13.cell? ⟨gb143, 0, none⟩ = some (.int .i64 0) := (blk_cell BK143.out 0).trans rfl; have hcz15_1 : w13.cell? ⟨gb143, 1, none⟩ = some (.int .i64 0) := (blk_cell BK143.out 1).trans rfl; have hfz15_0 := blk_frozen BK143.out 0; have hfz15_1 := blk_frozen BK143.out 1; have hcz16_0 : w13.cell? ⟨gb141, 0, none⟩ = some (.int .i64 ((rd_T24 l0 x11_1).f0)) := (blk_cell BK141.out 0).trans rfl; have hcz16_1 : w13.cell? ⟨gb141, 1, none⟩ = some (.int .i64 ((rd_T24 l0 x11_1).f1)) := (blk_cell BK141.out 1).trans rfl; have hfz16_0 := blk_frozen BK141.out 0; have hfz16_1 := blk_frozen BK141.out 1))
                          go_ret
                          exact ⟨by first | rfl | (simp [errW_none, errW_some] <;> rfl) | (simp [*, errW_none, errW_some] <;> rfl), by repeat (first | (with_reducible first | exact HB.out | apply below_alloc | apply pw_below_drewN | apply below_drew1 | refine below_set ?_ GE141.out | refine below_set ?_ GE143.out) | exact HB.out)⟩
                        · rw [if_neg c12] at H
                          have c12b0 : decide (((rd_T24 l1 x17_2).f1) < ((rd_T24 l0 x11_1).f1)) = false := decide_eq_false c12
                          clear c12
                          by_cases c17 : ((rd_T24 l1 x17_2).f0) ≤ ((rd_T24 l0 x11_1).f0)
                          · rw [if_pos c17] at H
                            have c17b0 : decide (((rd_T24 l1 x17_2).f0) ≤ ((rd_T24 l0 x11_1).f0)) = true := decide_eq_true c17
                            clear c17
                            by_cases c18 : ((rd_T24 l0 x11_1).f1) < ((rd_T24 l1 x17_2).f1)
                            · rw [if_pos c18] at H
                              have c18b0 : decide (((rd_T24 l0 x11_1).f1) < ((rd_T24 l1 x17_2).f1)) = true := decide_eq_true c18
                              clear c18
                              obtain rfl := Option.some.inj H
                              have p142 : 0 ≤ (x17_2 : Int) := of_decide_eq_true (by first | (with_reducible assumption) | assumption)
                              have q142 : x17_2 < (l1.length : Int) := of_decide_eq_true (by first | (with_reducible assumption) | assumption)
                              obtain ⟨ad142, e142, hx142_0, hx142_1⟩ := at_T24 HR1.out x17_2 p142 q142
                              cases e142
                              replace hx142_0 := (HB.out.cell (World.block_lt_of_cell? w _ hx142_0)).trans hx142_0
                              replace hx142_1 := (HB.out.cell (World.block_lt_of_cell? w _ hx142_1)).trans hx142_1
                              replace p142 := eq_true p142
                              replace q142 := eq_true q142
                              go_wp2_with (first | ((with_reducible refine gate_dst (N := 8) rfl ?_); refine box_event ?hg (N := 8) ?hd (cs := #[.int .i64 0, .int .i64 0]) (t := 24) ?hr ?_; (case hd => rfl); (case hg => rfl); (case hr => first | (go_simp; done) | (go_simp; rfl)); intro gb143 hg w19 hbox hb; have n0_ := Aside0.mk (blk_below (g := gb141) (o := .cells #[.int .i64 ((rd_T24 l0 x11_1).f0), .int .i64 ((rd_T24 l0 x11_1).f1)] 24 (0, 0)) (by (with_reducible repeat (first | refine blk_drewN ?_ _ | refine blk_drew ?_ | refine blk_alloc ?_ _)); exact BK141.out) hb); have n1_ := Aside0.mk (below_step (by repeat (first | (with_reducible first | exact HB.out | apply below_alloc | apply pw_below_drewN | apply below_drew1 | refine below_set ?_ GE141.out) | exact HB.out)) hb); have n2_ := Aside0.mk (hbox); have n3_ := Aside0.mk ((by rw [hg]; exact (below_size (by repeat (first | (with_reducible first | exact HB.out | apply below_alloc | apply pw_below_drewN | apply below_drew1 | refine below_set ?_ GE141.out) | exact HB.out))) : w.heap.size ≤ gb143)); have n4_ := Aside0.mk ((by rw [hg]; exact (below_size (by repeat (first | (with_reducible first | exact HB.out | apply below_alloc | apply pw_below_drewN | apply below_drew1 | refine below_set ?_ GE141.out) | exact HB.out))) : w.heap.size ≤ gb143)); have n5_ := Aside0.mk ((by rw [hg]; exact Nat.ne_of_lt (blk_lt (g := gb141) (o := .cells #[.int .i64 ((rd_T24 l0 x11_1).f0), .int .i64 ((rd_T24 l0 x11_1).f1)] 24 (0, 0)) (by (with_reducible repeat (first | refine blk_drewN ?_ _ | refine blk_drew ?_ | refine blk_alloc ?_ _)); exact BK141.out)) : gb141 ≠ gb143)); have n6_ := Aside0.mk ((by rw [hg]; exact Nat.ne_of_gt (blk_lt (g := gb141) (o := .cells #[.int .i64 ((rd_T24 l0 x11_1).f0), .int .i64 ((rd_T24 l0 x11_1).f1)] 24 (0, 0)) (by (with_reducible repeat (first | refine blk_drewN ?_ _ | refine blk_drew ?_ | refine blk_alloc ?_ _)); exact BK141.out)) : gb143 ≠ gb141)); clear BK141; clear HB; have BK141 := n0_; have HB := n1_; have BK143 := n2_; have GW143 := n3_; have GE143 := n4_; have NB141_143 := n5_; have NB143_141 := n6_; clear n0_ n1_ n2_ n3_ n4_ n5_ n6_; clear hb hbox hg; have hnb20 := NB143_141.out; have hnc20 := NB141_143.out; have hcz21_0 : w19.cell? ⟨gb143, 0, none⟩ = some (.int .i64 0) := (blk_cell BK143.out 0).trans rfl; have hcz21_1 : w19.cell? ⟨gb143, 1, none⟩ = some (.int .i64 0) := (blk_cell BK143.out 1).trans rfl; have hfz21_0 := blk_frozen BK143.out 0; have hfz21_1 := blk_frozen BK143.out 1; have hcz22_0 : w19.cell? ⟨gb141, 0, none⟩ = some (.int .i64 ((rd_T24 l0 x11_1).f0)) := (blk_cell BK141.out 0).trans rfl; have hcz22_1 : w19.cell? ⟨gb141, 1, none⟩ = some (.int .i64 ((rd_T24 l0 x11_1).f1)) := (blk_cell BK141.out 1).trans rfl; have hfz22_0 := blk_frozen BK141.out 0; have hfz22_1 := blk_frozen BK141.out 1))
                              go_ret
                              exact ⟨by first | rfl | (simp [errW_none, errW_some] <;> rfl) | (simp [*, errW_none, errW_some] <;> rfl), by repeat (first | (with_reducible first | exact HB.out | apply below_alloc | apply pw_below_drewN | apply below_drew1 | refine below_set ?_ GE141.out | refine below_set ?_ GE143.out) | exact HB.out)⟩
                            · rw [if_neg c18] at H
                              have c18b0 : decide (((rd_T24 l0 x11_1).f1) < ((rd_T24 l1 x17_2).f1)) = false := decide_eq_false c18
                              clear c18
                              have H' := Aside0.mk H
                              clear H
                              have p142 : 0 ≤ (x17_2 : Int) := of_decide_eq_true (by first | (with_reducible assumption) | assumption)
                              have q142 : x17_2 < (l1.length : Int) := of_decide_eq_true (by first | (with_reducible assumption) | assumption)
                              obtain ⟨ad142, e142, hx142_0, hx142_1⟩ := at_T24 HR1.out x17_2 p142 q142
                              cases e142
                              replace hx142_0 := (HB.out.cell (World.block_lt_of_cell? w _ hx142_0)).trans hx142_0
                              replace hx142_1 := (HB.out.cell (World.block_lt_of_cell? w _ hx142_1)).trans hx142_1
                              replace p142 := eq_true p142
                              replace q142 := eq_true q142
                              go_wp2_with (first | ((with_reducible refine gate_dst (N := 8) rfl ?_); refine box_event ?hg (N := 8) ?hd (cs := #[.int .i64 0, .int .i64 0]) (t := 24) ?hr ?_; (case hd => rfl); (case hg => rfl); (case hr => first | (go_simp; done) | (go_simp; rfl)); intro gb143 hg w23 hbox hb; have n0_ := Aside0.mk (blk_below (g := gb141) (o := .cells #[.int .i64 ((rd_T24 l0 x11_1).f0), .int .i64 ((rd_T24 l0 x11_1).f1)] 24 (0, 0)) (by (with_reducible repeat (first | refine blk_drewN ?_ _ | refine blk_drew ?_ | refine blk_alloc ?_ _)); exact BK141.out) hb); have n1_ := Aside0.mk (below_step (by repeat (first | (with_reducible first | exact HB.out | apply below_alloc | apply pw_below_drewN | apply below_drew1 | refine below_set ?_ GE141.out) | exact HB.out)) hb); have n2_ := Aside0.mk (hbox); have n3_ := Aside0.mk ((by rw [hg]; exact (below_size (by repeat (first | (with_reducible first | exact HB.out | apply below_alloc | apply pw_below_drewN | apply below_drew1 | refine below_set ?_ GE141.out) | exact HB.out))) : w.heap.size ≤ gb143)); have n4_ := Aside0.mk ((by rw [hg]; exact (below_size (by repeat (first | (with_reducible first | exact HB.out | apply below_alloc | apply pw_below_drewN | apply below_drew1 | refine below_set ?_ GE141.out) | exact HB.out))) : w.heap.size ≤ gb143)); have n5_ := Aside0.mk ((by rw [hg]; exact Nat.ne_of_lt (blk_lt (g := gb141) (o := .cells #[.int .i64 ((rd_T24 l0 x11_1).f0), .int .i64 ((rd_T24 l0 x11_1).f1)] 24 (0, 0)) (by (with_reducible repeat (first | refine blk_drewN ?_ _ | refine blk_drew ?_ | refine blk_alloc ?_ _)); exact BK141.out)) : gb141 ≠ gb143)); have n6_ := Aside0.mk ((by rw [hg]; exact Nat.ne_of_gt (blk_lt (g := gb141) (o := .cells #[.int .i64 ((rd_T24 l0 x11_1).f0), .int .i64 ((rd_T24 l0 x11_1).f1)] 24 (0, 0)) (by (with_reducible repeat (first | refine blk_drewN ?_ _ | refine blk_drew ?_ | refine blk_alloc ?_ _)); exact BK141.out)) : gb143 ≠ gb141)); clear BK141; clear HB; have BK141 := n0_; have HB := n1_; have BK143 := n2_; have GW143 := n3_; have GE143 := n4_; have NB141_143 := n5_; have NB143_141 := n6_; clear n0_ n1_ n2_ n3_ n4_ n5_ n6_; clear hb hbox hg; have hnb24 := NB143_141.out; have hnc24 := NB141_143.out; have hcz25_0 : w23.cell? ⟨gb143, 0, none⟩ = some (.int .i64 0) := (blk_cell BK143.out 0).trans rfl; have hcz25_1 : w23.cell? ⟨gb143, 1, none⟩ = some (.int .i64 0) := (blk_cell BK143.out 1).trans rfl; have hfz25_0 := blk_frozen BK143.out 0; have hfz25_1 := blk_frozen BK143.out 1; have hcz26_0 : w23.cell? ⟨gb141, 0, none⟩ = some (.int .i64 ((rd_T24 l0 x11_1).f0)) := (blk_cell BK141.out 0).trans rfl; have hcz26_1 : w23.cell? ⟨gb141, 1, none⟩ = some (.int .i64 ((rd_T24 l0 x11_1).f1)) := (blk_cell BK141.out 1).trans rfl; have hfz26_0 := blk_frozen BK141.out 0; have hfz26_1 := blk_frozen BK141.out 1))
                              go_roundg k2
                              case measure => have := HK1.out; have := HK2.out; omega
                              case rel => exact ⟨(wrap64 (x17_2 + 1)), (by first | rfl | (simp; done) | (simp [*]; done)), H', ⟨by have := HK1.out; have := HK2.out; omega⟩, ⟨by (with_reducible repeat (first | refine blk_drewN ?_ _ | refine blk_drew ?_ | refine blk_alloc ?_ _)); refine blk_far ?_ NB141_143.out _; (with_reducible repeat (first | refine blk_drewN ?_ _ | refine blk_drew ?_ | refine blk_alloc ?_ _)); refine blk_far ?_ NB141_143.out _; (with_reducible repeat (first | refine blk_drewN ?_ _ | refine blk_drew ?_ | refine blk_alloc ?_ _)); exact BK141.out⟩, ⟨by repeat (first | (with_reducible first | exact HB.out | apply below_alloc | apply pw_below_drewN | apply below_drew1 | refine below_set ?_ GE141.out | refine below_set ?_ GE143.out) | exact HB.out)⟩⟩
                          · rw [if_neg c17] at H
                            have c17b0 : decide (((rd_T24 l1 x17_2).f0) ≤ ((rd_T24 l0 x11_1).f0)) = false := decide_eq_false c17
                            clear c17
                            have H' := Aside0.mk H
                            clear H
                            have p142 : 0 ≤ (x17_2 : Int) := of_decide_eq_true (by first | (with_reducible assumption) | assumption)
                            have q142 : x17_2 < (l1.length : Int) := of_decide_eq_true (by first | (with_reducible assumption) | assumption)
                            obtain ⟨ad142, e142, hx142_0, hx142_1⟩ := at_T24 HR1.out x17_2 p142 q142
                            cases e142
                            replace hx142_0 := (HB.out.cell (World.block_lt_of_cell? w _ hx142_0)).trans hx142_0
                            replace hx142_1 := (HB.out.cell (World.block_lt_of_cell? w _ hx142_1)).trans hx142_1
                            replace p142 := eq_true p142
                            replace q142 := eq_true q142
                            go_wp2_with (first | ((with_reducible refine gate_dst (N := 8) rfl ?_); refine box_event ?hg (N := 8) ?hd (cs := #[.int .i64 0, .int .i64 0]) (t := 24) ?hr ?_; (case hd => rfl); (case hg => rfl); (case hr => first | (go_simp; done) | (go_simp; rfl)); intro gb143 hg w27 hbox hb; have n0_ := Aside0.mk (blk_below (g := gb141) (o := .cells #[.int .i64 ((rd_T24 l0 x11_1).f0), .int .i64 ((rd_T24 l0 x11_1).f1)] 24 (0, 0)) (by (with_reducible repeat (first | refine blk_drewN ?_ _ | refine blk_drew ?_ | refine blk_alloc ?_ _)); exact BK141.out) hb); have n1_ := Aside0.mk (below_step (by repeat (first | (with_reducible first | exact HB.out | apply below_alloc | apply pw_below_drewN | apply below_drew1 | refine below_set ?_ GE141.out) | exact HB.out)) hb); have n2_ := Aside0.mk (hbox); have n3_ := Aside0.mk ((by rw [hg]; exact (below_size (by repeat (first | (with_reducible first | exact HB.out | apply below_alloc | apply pw_below_drewN | apply below_drew1 | refine below_set ?_ GE141.out) | exact HB.out))) : w.heap.size ≤ gb143)); have n4_ := Aside0.mk ((by rw [hg]; exact (below_size (by repeat (first | (with_reducible first | exact HB.out | apply below_alloc | apply pw_below_drewN | apply below_drew1 | refine below_set ?_ GE141.out) | exact HB.out))) : w.heap.size ≤ gb143)); have n5_ := Aside0.mk ((by rw [hg]; exact Nat.ne_of_lt (blk_lt (g := gb141) (o := .cells #[.int .i64 ((rd_T24 l0 x11_1).f0), .int .i64 ((rd_T24 l0 x11_1).f1)] 24 (0, 0)) (by (with_reducible repeat (first | refine blk_drewN ?_ _ | refine blk_drew ?_ | refine blk_alloc ?_ _)); exact BK141.out)) : gb141 ≠ gb143)); have n6_ := Aside0.mk ((by rw [hg]; exact Nat.ne_of_gt (blk_lt (g := gb141) (o := .cells #[.int .i64 ((rd_T24 l0 x11_1).f0), .int .i64 ((rd_T24 l0 x11_1).f1)] 24 (0, 0)) (by (with_reducible repeat (first | refine blk_drewN ?_ _ | refine blk_drew ?_ | refine blk_alloc ?_ _)); exact BK141.out)) : gb143 ≠ gb141)); clear BK141; clear HB; have BK141 := n0_; have HB := n1_; have BK143 := n2_; have GW143 := n3_; have GE143 := n4_; have NB141_143 := n5_; have NB143_141 := n6_; clear n0_ n1_ n2_ n3_ n4_ n5_ n6_; clear hb hbox hg; have hnb28 := NB143_141.out; have hnc28 := NB141_143.out; have hcz29_0 : w27.cell? ⟨gb143, 0, none⟩ = some (.int .i64 0) := (blk_cell BK143.out 0).trans rfl; have hcz29_1 : w27.cell? ⟨gb143, 1, none⟩ = some (.int .i64 0) := (blk_cell BK143.out 1).trans rfl; have hfz29_0 := blk_frozen BK143.out 0; have hfz29_1 := blk_frozen BK143.out 1; have hcz30_0 : w27.cell? ⟨gb141, 0, none⟩ = some (.int .i64 ((rd_T24 l0 x11_1).f0)) := (blk_cell BK141.out 0).trans rfl; have hcz30_1 : w27.cell? ⟨gb141, 1, none⟩ = some (.int .i64 ((rd_T24 l0 x11_1).f1)) := (blk_cell BK141.out 1).trans rfl; have hfz30_0 := blk_frozen BK141.out 0; have hfz30_1 := blk_frozen BK141.out 1))
                            go_roundg k2
                            case measure => have := HK1.out; have := HK2.out; omega
                            case rel => exact ⟨(wrap64 (x17_2 + 1)), (by first | rfl | (simp; done) | (simp [*]; done)), H', ⟨by have := HK1.out; have := HK2.out; omega⟩, ⟨by (with_reducible repeat (first | refine blk_drewN ?_ _ | refine blk_drew ?_ | refine blk_alloc ?_ _)); refine blk_far ?_ NB141_143.out _; (with_reducible repeat (first | refine blk_drewN ?_ _ | refine blk_drew ?_ | refine blk_alloc ?_ _)); refine blk_far ?_ NB141_143.out _; (with_reducible repeat (first | refine blk_drewN ?_ _ | refine blk_drew ?_ | refine blk_alloc ?_ _)); exact BK141.out⟩, ⟨by repeat (first | (with_reducible first | exact HB.out | apply below_alloc | apply pw_below_drewN | apply below_drew1 | refine below_set ?_ GE141.out | refine below_set ?_ GE143.out) | exact HB.out)⟩⟩
                      · rw [if_neg c11] at H
                        have c11b0 : decide (((rd_T24 l0 x11_1).f0) ≤ ((rd_T24 l1 x17_2).f0)) = false := decide_eq_false c11
                        clear c11
                        by_cases c31 : ((rd_T24 l1 x17_2).f0) ≤ ((rd_T24 l0 x11_1).f0)
                        · rw [if_pos c31] at H
                          have c31b0 : decide (((rd_T24 l1 x17_2).f0) ≤ ((rd_T24 l0 x11_1).f0)) = true := decide_eq_true c31
                          clear c31
                          by_cases c32 : ((rd_T24 l0 x11_1).f1) < ((rd_T24 l1 x17_2).f1)
                          · rw [if_pos c32] at H
                            have c32b0 : decide (((rd_T24 l0 x11_1).f1) < ((rd_T24 l1 x17_2).f1)) = true := decide_eq_true c32
                            clear c32
                            obtain rfl := Option.some.inj H
                            have p142 : 0 ≤ (x17_2 : Int) := of_decide_eq_true (by first | (with_reducible assumption) | assumption)
                            have q142 : x17_2 < (l1.length : Int) := of_decide_eq_true (by first | (with_reducible assumption) | assumption)
                            obtain ⟨ad142, e142, hx142_0, hx142_1⟩ := at_T24 HR1.out x17_2 p142 q142
                            cases e142
                            replace hx142_0 := (HB.out.cell (World.block_lt_of_cell? w _ hx142_0)).trans hx142_0
                            replace hx142_1 := (HB.out.cell (World.block_lt_of_cell? w _ hx142_1)).trans hx142_1
                            replace p142 := eq_true p142
                            replace q142 := eq_true q142
                            go_wp2_with (first | ((with_reducible refine gate_dst (N := 8) rfl ?_); refine box_event ?hg (N := 8) ?hd (cs := #[.int .i64 0, .int .i64 0]) (t := 24) ?hr ?_; (case hd => rfl); (case hg => rfl); (case hr => first | (go_simp; done) | (go_simp; rfl)); intro gb143 hg w33 hbox hb; have n0_ := Aside0.mk (blk_below (g := gb141) (o := .cells #[.int .i64 ((rd_T24 l0 x11_1).f0), .int .i64 ((rd_T24 l0 x11_1).f1)] 24 (0, 0)) (by (with_reducible repeat (first | refine blk_drewN ?_ _ | refine blk_drew ?_ | refine blk_alloc ?_ _)); exact BK141.out) hb); have n1_ := Aside0.mk (below_step (by repeat (first | (with_reducible first | exact HB.out | apply below_alloc | apply pw_below_drewN | apply below_drew1 | refine below_set ?_ GE141.out) | exact HB.out)) hb); have n2_ := Aside0.mk (hbox); have n3_ := Aside0.mk ((by rw [hg]; exact (below_size (by repeat (first | (with_reducible first | exact HB.out | apply below_alloc | apply pw_below_drewN | apply below_drew1 | refine below_set ?_ GE141.out) | exact HB.out))) : w.heap.size ≤ gb143)); have n4_ := Aside0.mk ((by rw [hg]; exact (below_size (by repeat (first | (with_reducible first | exact HB.out | apply below_alloc | apply pw_below_drewN | apply below_drew1 | refine below_set ?_ GE141.out) | exact HB.out))) : w.heap.size ≤ gb143)); have n5_ := Aside0.mk ((by rw [hg]; exact Nat.ne_of_lt (blk_lt (g := gb141) (o := .cells #[.int .i64 ((rd_T24 l0 x11_1).f0), .int .i64 ((rd_T24 l0 x11_1).f1)] 24 (0, 0)) (by (with_reducible repeat (first | refine blk_drewN ?_ _ | refine blk_drew ?_ | refine blk_alloc ?_ _)); exact BK141.out)) : gb141 ≠ gb143)); have n6_ := Aside0.mk ((by rw [hg]; exact Nat.ne_of_gt (blk_lt (g := gb141) (o := .cells #[.int .i64 ((rd_T24 l0 x11_1).f0), .int .i64 ((rd_T24 l0 x11_1).f1)] 24 (0, 0)) (by (with_reducible repeat (first | refine blk_drewN ?_ _ | refine blk_drew ?_ | refine blk_alloc ?_ _)); exact BK141.out)) : gb143 ≠ gb141)); clear BK141; clear HB; have BK141 := n0_; have HB := n1_; have BK143 := n2_; have GW143 := n3_; have GE143 := n4_; have NB141_143 := n5_; have NB143_141 := n6_; clear n0_ n1_ n2_ n3_ n4_ n5_ n6_; clear hb hbox hg; have hnb34 := NB143_141.out; have hnc34 := NB141_143.out; have hcz35_0 : w33.cell? ⟨gb143, 0, none⟩ = some (.int .i64 0) := (blk_cell BK143.out 0).trans rfl; have hcz35_1 : w33.cell? ⟨gb143, 1, none⟩ = some (.int .i64 0) := (blk_cell BK143.out 1).trans rfl; have hfz35_0 := blk_frozen BK143.out 0; have hfz35_1 := blk_frozen BK143.out 1; have hcz36_0 : w33.cell? ⟨gb141, 0, none⟩ = some (.int .i64 ((rd_T24 l0 x11_1).f0)) := (blk_cell BK141.out 0).trans rfl; have hcz36_1 : w33.cell? ⟨gb141, 1, none⟩ = some (.int .i64 ((rd_T24 l0 x11_1).f1)) := (blk_cell BK141.out 1).trans rfl; have hfz36_0 := blk_frozen BK141.out 0; have hfz36_1 := blk_frozen BK141.out 1))
                            go_ret
                            exact ⟨by first | rfl | (simp [errW_none, errW_some] <;> rfl) | (simp [*, errW_none, errW_some] <;> rfl), by repeat (first | (with_reducible first | exact HB.out | apply below_alloc | apply pw_below_drewN | apply below_drew1 | refine below_set ?_ GE141.out | refine below_set ?_ GE143.out) | exact HB.out)⟩
                          · rw [if_neg c32] at H
                            have c32b0 : decide (((rd_T24 l0 x11_1).f1) < ((rd_T24 l1 x17_2).f1)) = false := decide_eq_false c32
                            clear c32
                            have H' := Aside0.mk H
                            clear H
                            have p142 : 0 ≤ (x17_2 : Int) := of_decide_eq_true (by first | (with_reducible assumption) | assumption)
                            have q142 : x17_2 < (l1.length : Int) := of_decide_eq_true (by first | (with_reducible assumption) | assumption)
                            obtain ⟨ad142, e142, hx142_0, hx142_1⟩ := at_T24 HR1.out x17_2 p142 q142
                            cases e142
                            replace hx142_0 := (HB.out.cell (World.block_lt_of_cell? w _ hx142_0)).trans hx142_0
                            replace hx142_1 := (HB.out.cell (World.block_lt_of_cell? w _ hx142_1)).trans hx142_1
                            replace p142 := eq_true p142
                            replace q142 := eq_true q142
                            go_wp2_with (first | ((with_reducible refine gate_dst (N := 8) rfl ?_); refine box_event ?hg (N := 8) ?hd (cs := #[.int .i64 0, .int .i64 0]) (t := 24) ?hr ?_; (case hd => rfl); (case hg => rfl); (case hr => first | (go_simp; done) | (go_simp; rfl)); intro gb143 hg w37 hbox hb; have n0_ := Aside0.mk (blk_below (g := gb141) (o := .cells #[.int .i64 ((rd_T24 l0 x11_1).f0), .int .i64 ((rd_T24 l0 x11_1).f1)] 24 (0, 0)) (by (with_reducible repeat (first | refine blk_drewN ?_ _ | refine blk_drew ?_ | refine blk_alloc ?_ _)); exact BK141.out) hb); have n1_ := Aside0.mk (below_step (by repeat (first | (with_reducible first | exact HB.out | apply below_alloc | apply pw_below_drewN | apply below_drew1 | refine below_set ?_ GE141.out) | exact HB.out)) hb); have n2_ := Aside0.mk (hbox); have n3_ := Aside0.mk ((by rw [hg]; exact (below_size (by repeat (first | (with_reducible first | exact HB.out | apply below_alloc | apply pw_below_drewN | apply below_drew1 | refine below_set ?_ GE141.out) | exact HB.out))) : w.heap.size ≤ gb143)); have n4_ := Aside0.mk ((by rw [hg]; exact (below_size (by repeat (first | (with_reducible first | exact HB.out | apply below_alloc | apply pw_below_drewN | apply below_drew1 | refine below_set ?_ GE141.out) | exact HB.out))) : w.heap.size ≤ gb143)); have n5_ := Aside0.mk ((by rw [hg]; exact Nat.ne_of_lt (blk_lt (g := gb141) (o := .cells #[.int .i64 ((rd_T24 l0 x11_1).f0), .int .i64 ((rd_T24 l0 x11_1).f1)] 24 (0, 0)) (by (with_reducible repeat (first | refine blk_drewN ?_ _ | refine blk_drew ?_ | refine blk_alloc ?_ _)); exact BK141.out)) : gb141 ≠ gb143)); have n6_ := Aside0.mk ((by rw [hg]; exact Nat.ne_of_gt (blk_lt (g := gb141) (o := .cells #[.int .i64 ((rd_T24 l0 x11_1).f0), .int .i64 ((rd_T24 l0 x11_1).f1)] 24 (0, 0)) (by (with_reducible repeat (first | refine blk_drewN ?_ _ | refine blk_drew ?_ | refine blk_alloc ?_ _)); exact BK141.out)) : gb143 ≠ gb141)); clear BK141; clear HB; have BK141 := n0_; have HB := n1_; have BK143 := n2_; have GW143 := n3_; have GE143 := n4_; have NB141_143 := n5_; have NB143_141 := n6_; clear n0_ n1_ n2_ n3_ n4_ n5_ n6_; clear hb hbox hg; have hnb38 := NB143_141.out; have hnc38 := NB141_143.out; have hcz39_0 : w37.cell? ⟨gb143, 0, none⟩ = some (.int .i64 0) := (blk_cell BK143.out 0).trans rfl; have hcz39_1 : w37.cell? ⟨gb143, 1, none⟩ = some (.int .i64 0) := (blk_cell BK143.out 1).trans rfl; have hfz39_0 := blk_frozen BK143.out 0; have hfz39_1 := blk_frozen BK143.out 1; have hcz40_0 : w37.cell? ⟨gb141, 0, none⟩ = some (.int .i64 ((rd_T24 l0 x11_1).f0)) := (blk_cell BK141.out 0).trans rfl; have hcz40_1 : w37.cell? ⟨gb141, 1, none⟩ = some (.int .i64 ((rd_T24 l0 x11_1).f1)) := (blk_cell BK141.out 1).trans rfl; have hfz40_0 := blk_frozen BK141.out 0; have hfz40_1 := blk_frozen BK141.out 1))
                            go_roundg k2
                            case measure => have := HK1.out; have := HK2.out; omega
                            case rel => exact ⟨(wrap64 (x17_2 + 1)), (by first | rfl | (simp; done) | (simp [*]; done)), H', ⟨by have := HK1.out; have := HK2.out; omega⟩, ⟨by (with_reducible repeat (first | refine blk_drewN ?_ _ | refine blk_drew ?_ | refine blk_alloc ?_ _)); refine blk_far ?_ NB141_143.out _; (with_reducible repeat (first | refine blk_drewN ?_ _ | refine blk_drew ?_ | refine blk_alloc ?_ _)); refine blk_far ?_ NB141_143.out _; (with_reducible repeat (first | refine blk_drewN ?_ _ | refine blk_drew ?_ | refine blk_alloc ?_ _)); exact BK141.out⟩, ⟨by repeat (first | (with_reducible first | exact HB.out | apply below_alloc | apply pw_below_drewN | apply below_drew1 | refine below_set ?_ GE141.out | refine below_set ?_ GE143.out) | exact HB.out)⟩⟩
                        · rw [if_neg c31] at H
                          have c31b0 : decide (((rd_T24 l1 x17_2).f0) ≤ ((rd_T24 l0 x11_1).f0)) = false := decide_eq_false c31
                          clear c31
                          have H' := Aside0.mk H
                          clear H
                          have p142 : 0 ≤ (x17_2 : Int) := of_decide_eq_true (by first | (with_reducible assumption) | assumption)
                          have q142 : x17_2 < (l1.length : Int) := of_decide_eq_true (by first | (with_reducible assumption) | assumption)
                          obtain ⟨ad142, e142, hx142_0, hx142_1⟩ := at_T24 HR1.out x17_2 p142 q142
                          cases e142
                          replace hx142_0 := (HB.out.cell (World.block_lt_of_cell? w _ hx142_0)).trans hx142_0
                          replace hx142_1 := (HB.out.cell (World.block_lt_of_cell? w _ hx142_1)).trans hx142_1
                          replace p142 := eq_true p142
                          replace q142 := eq_true q142
                          go_wp2_with (first | ((with_reducible refine gate_dst (N := 8) rfl ?_); refine box_event ?hg (N := 8) ?hd (cs := #[.int .i64 0, .int .i64 0]) (t := 24) ?hr ?_; (case hd => rfl); (case hg => rfl); (case hr => first | (go_simp; done) | (go_simp; rfl)); intro gb143 hg w41 hbox hb; have n0_ := Aside0.mk (blk_below (g := gb141) (o := .cells #[.int .i64 ((rd_T24 l0 x11_1).f0), .int .i64 ((rd_T24 l0 x11_1).f1)] 24 (0, 0)) (by (with_reducible repeat (first | refine blk_drewN ?_ _ | refine blk_drew ?_ | refine blk_alloc ?_ _)); exact BK141.out) hb); have n1_ := Aside0.mk (below_step (by repeat (first | (with_reducible first | exact HB.out | apply below_alloc | apply pw_below_drewN | apply below_drew1 | refine below_set ?_ GE141.out) | exact HB.out)) hb); have n2_ := Aside0.mk (hbox); have n3_ := Aside0.mk ((by rw [hg]; exact (below_size (by repeat (first | (with_reducible first | exact HB.out | apply below_alloc | apply pw_below_drewN | apply below_drew1 | refine below_set ?_ GE141.out) | exact HB.out))) : w.heap.size ≤ gb143)); have n4_ := Aside0.mk ((by rw [hg]; exact (below_size (by repeat (first | (with_reducible first | exact HB.out | apply below_alloc | apply pw_below_drewN | apply below_drew1 | refine below_set ?_ GE141.out) | exact HB.out))) : w.heap.size ≤ gb143)); have n5_ := Aside0.mk ((by rw [hg]; exact Nat.ne_of_lt (blk_lt (g := gb141) (o := .cells #[.int .i64 ((rd_T24 l0 x11_1).f0), .int .i64 ((rd_T24 l0 x11_1).f1)] 24 (0, 0)) (by (with_reducible repeat (first | refine blk_drewN ?_ _ | refine blk_drew ?_ | refine blk_alloc ?_ _)); exact BK141.out)) : gb141 ≠ gb143)); have n6_ := Aside0.mk ((by rw [hg]; exact Nat.ne_of_gt (blk_lt (g := gb141) (o := .cells #[.int .i64 ((rd_T24 l0 x11_1).f0), .int .i64 ((rd_T24 l0 x11_1).f1)] 24 (0, 0)) (by (with_reducible repeat (first | refine blk_drewN ?_ _ | refine blk_drew ?_ | refine blk_alloc ?_ _)); exact BK141.out)) : gb143 ≠ gb141)); clear BK141; clear HB; have BK141 := n0_; have HB := n1_; have BK143 := n2_; have GW143 := n3_; have GE143 := n4_; have NB141_143 := n5_; have NB143_141 := n6_; clear n0_ n1_ n2_ n3_ n4_ n5_ n6_; clear hb hbox hg; have hnb42 := NB143_141.out; have hnc42 := NB141_143.out; have hcz43_0 : w41.cell? ⟨gb143, 0, none⟩ = some (.int .i64 0) := (blk_cell BK143.out 0).trans rfl; have hcz43_1 : w41.cell? ⟨gb143, 1, none⟩ = some (.int .i64 0) := (blk_cell BK143.out 1).trans rfl; have hfz43_0 := blk_frozen BK143.out 0; have hfz43_1 := blk_frozen BK143.out 1; have hcz44_0 : w41.cell? ⟨gb141, 0, none⟩ = some (.int .i64 ((rd_T24 l0 x11_1).f0)) := (blk_cell BK141.out 0).trans rfl; have hcz44_1 : w41.cell? ⟨gb141, 1, none⟩ = some (.int .i64 ((rd_T24 l0 x11_1).f1)) := (blk_cell BK141.out 1).trans rfl; have hfz44_0 := blk_frozen BK141.out 0; have hfz44_1 := blk_frozen BK141.out 1))
                          go_roundg k2
                          case measure => have := HK1.out; have := HK2.out; omega
                          case rel => exact ⟨(wrap64 (x17_2 + 1)), (by first | rfl | (simp; done) | (simp [*]; done)), H', ⟨by have := HK1.out; have := HK2.out; omega⟩, ⟨by (with_reducible repeat (first | refine blk_drewN ?_ _ | refine blk_drew ?_ | refine blk_alloc ?_ _)); refine blk_far ?_ NB141_143.out _; (with_reducible repeat (first | refine blk_drewN ?_ _ | refine blk_drew ?_ | refine blk_alloc ?_ _)); refine blk_far ?_ NB141_143.out _; (with_reducible repeat (first | refine blk_drewN ?_ _ | refine blk_drew ?_ | refine blk_alloc ?_ _)); exact BK141.out⟩, ⟨by repeat (first | (with_reducible first | exact HB.out | apply below_alloc | apply pw_below_drewN | apply below_drew1 | refine below_set ?_ GE141.out | refine below_set ?_ GE143.out) | exact HB.out)⟩⟩
                    · rw [if_neg c10] at H
                      exact absurd H (by simp)
                  · rw [if_neg c9] at H
                    exact absurd H (by simp)
                · rw [if_neg c8] at H
                  have c8b0 : decide (x17_2 < (l1.length : Int)) = false := decide_eq_false c8
                  clear c8
                  have H' := Aside0.mk H
                  clear H
                  go_wp2
                  go_roundg k2
                  case measure => have := HK1.out; have := HK2.out; omega
                  case rel => exact ⟨(wrap64 (x11_1 + 1)), (by first | rfl | (simp; done) | (simp [*]; done)), H', ⟨by have := HK1.out; have := HK2.out; omega⟩, ⟨by repeat (first | (with_reducible first | exact HB.out | apply below_alloc | apply pw_below_drewN | apply below_drew1 | refine below_set ?_ GE141.out) | exact HB.out)⟩⟩
          · rw [if_neg c5] at H
            exact absurd H (by simp)
        · rw [if_neg c4] at H
          exact absurd H (by simp)
      · rw [if_neg c3] at H
        have c3b0 : decide (x11_1 < (l0.length : Int)) = false := decide_eq_false c3
        clear c3
        obtain rfl := Option.some.inj H
        go_wp2
        go_ret
        exact ⟨by first | rfl | (simp [errW_none, errW_some] <;> rfl) | (simp [*, errW_none, errW_some] <;> rfl), by repeat (first | (with_reducible first | exact HB.out | apply below_alloc | apply pw_below_drewN | apply below_drew1) | exact HB.out)⟩

/-! ### impl_rangesTo: function 23 -/
def impl_rangesTo.l0 : Nat → List (S56) → List (S24) → Int → Int → Option ((List (S56)))
  | 0, _, _, _, _ => none
  | k + 1, x3, x6, x7, x8 => if x8 < x7 then (if 0 ≤ x8 then (if x8 < (x6.length : Int) then (if x3.length < 8796093022208 then (impl_rangesTo.l0 k (x3 ++ [(⟨(rd_T24 x6 x8).f0, (rd_T24 x6 x8).f1⟩ : S56)]) x6 x7 (wrap64 (x8 + 1))) else (none)) else (none)) else (none)) else (some x3)
def impl_rangesTo.f (k : Nat) (l0 : List (S24)) : Option ((List (S56))) := impl_rangesTo.l0 k ([] : List (S56)) l0 (l0.length : Int) 0
theorem impl_rangesTo.mono_l : ∀ k, (∀ y0 y1 y2 y3, LeO (impl_rangesTo.l0 k y0 y1 y2 y3) (impl_rangesTo.l0 (k + 1) y0 y1 y2 y3))
  | 0 => fun _ _ _ _ r h => by simp [impl_rangesTo.l0] at h
  | k + 1 => by
    have ih0 := impl_rangesTo.mono_l k
    · intro y0 y1 y2 y3
      unfold impl_rangesTo.l0
      repeat' first
      | (with_reducible exact ih0 _ _ _ _)
      | (with_reducible exact LeO.refl _)
      | (with_reducible exact LeO.none _)
      | (with_reducible refine LeO.ite ?_ ?_)
      | (with_reducible refine LeO.bind ?_ (fun _ => ?_))
      | exact ih0 _ _ _ _
      | exact LeO.none _
      | refine LeO.ite ?_ ?_
      | refine LeO.bind ?_ (fun _ => ?_)
theorem impl_rangesTo.mono : ∀ a0 k, LeO (impl_rangesTo.f k a0) (impl_rangesTo.f (k + 1) a0) := by
  intro a0 k
  have ih0 := impl_rangesTo.mono_l k
  unfold impl_rangesTo.f
  repeat' first
      | (with_reducible exact ih0 _ _ _ _)
      | (with_reducible exact LeO.refl _)
      | (with_reducible exact LeO.none _)
      | (with_reducible refine LeO.ite ?_ ?_)
      | (with_reducible refine LeO.bind ?_ (fun _ => ?_))
      | exact ih0 _ _ _ _
      | exact LeO.none _
      | refine LeO.ite ?_ ?_
      | refine LeO.bind ?_ (fun _ => ?_)
set_option maxHeartbeats 8000000 in
set_option maxRecDepth 100000 in
theorem impl_rangesTo.calls (k : Nat) (A0 : Option Addr) (c0 : Nat) (l0 : List (S24)) (r : List (S56)) (w : World) (hr0 : Kd.C k24 w A0 l0.length l0) (hc0 : l0.length ≤ c0) (h : impl_rangesTo.f k l0 = some r) :
    Calls Try.prog 23 #[.slice A0 l0.length c0] w fun e w' => ∃ v0_ : Value, e = .returned (v0_) ∧ Kd.R k56 56 w' w.heap.size (fun _ => True) v0_ r ∧ Below w.heap.size w w' := by
  have hu24 := Try.underlying24
  have hu56 := Try.underlying56
  have HR0 := Aside0.mk hr0
  have HC0 := Aside0.mk hc0
  clear hr0 hc0
  have HB := Aside0.mk (Below.refl w.heap.size w)
  have H : (impl_rangesTo.l0 k ([] : List (S56)) l0 (l0.length : Int) 0) = some r := h
  clear h
  have H' := Aside0.mk H
  clear H
  go_enter Try.func23, Try.ntmps23
  go_wp2
  go_loopg [3, 8] k (fun kq v3 v8 w' => ∃ (x3_1 : List (S56)) (x8_1 : Int), v8 = .int .i64 x8_1 ∧ Aside0 (impl_rangesTo.l0 kq x3_1 l0 (l0.length : Int) x8_1 = some r) ∧ Aside0 (kq ≤ k) ∧ Aside0 (Kd.R k56 56 w' w.heap.size (fun _ => True) v3 x3_1) ∧ Aside0 (Below w.heap.size w w'))
  case atStart => exact ⟨(([] : List (S56))), (0), (by first | rfl | (simp; done) | (simp [*]; done)), H', ⟨Nat.le_refl _⟩, ⟨by first | exact Kd.R_nil _ _ _ _ _ | exact Kd.N_nil _ _ _ _ _ | exact Kd.V_nil _ _ _ _ _ | exact Kd.Q_nil _ _ _ _ _ | exact Kd.S_nil _ _ _ _ _⟩, ⟨by repeat (first | (with_reducible first | exact HB.out | apply below_alloc | apply pw_below_drewN | apply below_drew1) | exact HB.out)⟩⟩
  case round =>
    clear H'
    obtain ⟨x3_1, x8_1, rfl, HA, HK1, HO_3, HB⟩ := hrel
    cases gk with
    | zero => exact absurd HA.out (by simp [impl_rangesTo.l0])
    | succ k1 =>
      have H := HA.out
      clear HA
      simp only [impl_rangesTo.l0] at H
      by_cases c2 : x8_1 < (l0.length : Int)
      · rw [if_pos c2] at H
        have c2b0 : decide (x8_1 < (l0.length : Int)) = true := decide_eq_true c2
        clear c2
        by_cases c3 : 0 ≤ x8_1
        · rw [if_pos c3] at H
          have c3b0 : decide (0 ≤ x8_1) = true := decide_eq_true c3
          clear c3
          by_cases c4 : x8_1 < (l0.length : Int)
          · rw [if_pos c4] at H
            have c4b0 : decide (x8_1 < (l0.length : Int)) = true := decide_eq_true c4
            clear c4
            by_cases c5 : x3_1.length < 8796093022208
            · rw [if_pos c5] at H
              have LMc5 := Aside0.mk c5
              clear c5
              obtain ⟨y146, hy146⟩ : ∃ y_ : List (S56), y_ = (x3_1 ++ [(⟨(rd_T24 l0 x8_1).f0, (rd_T24 l0 x8_1).f1⟩ : S56)]) := ⟨_, rfl⟩
              replace H : (impl_rangesTo.l0 k1 y146 l0 (l0.length : Int) (wrap64 (x8_1 + 1))) = some r := by first | (rw [hy146]; with_reducible exact H) | (have H2_ := (Option.bind_some _ _).symm.trans H; rw [hy146]; with_reducible exact H2_) | (have H2_ := (Option.bind_some _ _).symm.trans H; with_reducible exact H2_) | with_reducible exact H | (rw [hy146]; exact H) | exact H
              have Ny146 := Aside0.mk hy146
              clear hy146
              have H' := Aside0.mk H
              clear H
              have p144 : 0 ≤ (x8_1 : Int) := of_decide_eq_true (by first | (with_reducible assumption) | assumption)
              have q144 : x8_1 < (l0.length : Int) := of_decide_eq_true (by first | (with_reducible assumption) | assumption)
              obtain ⟨ad144, e144, hx144_0, hx144_1⟩ := at_T24 HR0.out x8_1 p144 q144
              cases e144
              replace hx144_0 := (HB.out.cell (World.block_lt_of_cell? w _ hx144_0)).trans hx144_0
              replace hx144_1 := (HB.out.cell (World.block_lt_of_cell? w _ hx144_1)).trans hx144_1
              replace p144 := eq_true p144
              replace q144 := eq_true q144
              go_wp2_with (first | ((with_reducible refine gate_dst (N := 5) rfl ?_); refine box_event ?hg (N := 5) ?hd (cs := #[.int .i64 0, .int .i64 0]) (t := 24) ?hr ?_; (case hd => rfl); (case hg => rfl); (case hr => first | (go_simp; done) | (go_simp; rfl)); intro gb145 hg w6 hbox hb; have n0_ := Aside0.mk (Kd.R_below (by (with_reducible repeat (first | apply Kd.R_alloc | apply Kd.R_drewN | apply Kd.R_drew)); exact HO_3.out) hb); have n1_ := Aside0.mk (below_step (by repeat (first | (with_reducible first | exact HB.out | apply below_alloc | apply pw_below_drewN | apply below_drew1) | exact HB.out)) hb); have n2_ := Aside0.mk (hbox); have n3_ := Aside0.mk ((by rw [hg]; exact (below_size (by repeat (first | (with_reducible first | exact HB.out | apply below_alloc | apply pw_below_drewN | apply below_drew1) | exact HB.out))) : w.heap.size ≤ gb145)); have n4_ := Aside0.mk ((by rw [hg]; exact (below_size (by repeat (first | (with_reducible first | exact HB.out | apply below_alloc | apply pw_below_drewN | apply below_drew1) | exact HB.out))) : w.heap.size ≤ gb145)); clear HO_3; clear HB; have HO_3 := n0_; have HB := n1_; have BK145 := n2_; have GW145 := n3_; have GE145 := n4_; clear n0_ n1_ n2_ n3_ n4_; clear hb hbox hg; have hcz7_0 : w6.cell? ⟨gb145, 0, none⟩ = some (.int .i64 0) := (blk_cell BK145.out 0).trans rfl; have hcz7_1 : w6.cell? ⟨gb145, 1, none⟩ = some (.int .i64 0) := (blk_cell BK145.out 1).trans rfl; have hfz7_0 := blk_frozen BK145.out 0; have hfz7_1 := blk_frozen BK145.out 1) | ((with_reducible refine gate_builtin (b := .append) (xs := #[.tmp 12, .tmp 18]) rfl ?_); at_builtin; refine Kd.R_append k56 (w0 := w) w.heap.size rfl (.tmp 12) (.tmp 18) 50 56 (.agg #[(.int .i64 0), (.int .i64 0)]) 16 rfl Try.underlying50 info56 rfl (by decide) (by omega) u3 x3_1 (⟨(rd_T24 l0 x8_1).f0, (rd_T24 l0 x8_1).f1⟩ : S56) [.int .i64 ((rd_T24 l0 x8_1).f0), .int .i64 ((rd_T24 l0 x8_1).f1)] (fun _ => True) (fun _ => False) rfl (by first | (go_simp; done) | (go_simp; rfl)) ?aP (fun _ hk => hk.elim) ?aF ?aO ?aB ?aS ?aL ?_; (case aP => exact k56_mkM _ _ _ (⟨(rd_T24 l0 x8_1).f0, (rd_T24 l0 x8_1).f1⟩ : S56)); (case aB => exact (by repeat (first | (with_reducible first | exact HB.out | apply below_alloc | apply pw_below_drewN | apply below_drew1 | refine below_set ?_ GE145.out) | exact HB.out))); (case aF => exact (fun _ _ => trivial)); (case aO => exact (by (with_reducible repeat (first | apply Kd.R_alloc | apply Kd.R_drewN | apply Kd.R_drew)); exact Kd.R_mono (Kd.R_far (p := ⟨gb145, 1, none⟩) (Kd.R_far (p := ⟨gb145, 0, none⟩) (Kd.R_types HO_3.out BK145.out (by decide)) (fun _ hk => hk.2) (.int .i64 ((rd_T24 l0 x8_1).f0))) (fun _ hk => hk.2) (.int .i64 ((rd_T24 l0 x8_1).f1))) (fun _ hk => trivial))); (case aS => exact (below_size (by repeat (first | (with_reducible first | exact HB.out | apply below_alloc | apply pw_below_drewN | apply below_drew1 | refine below_set ?_ GE145.out) | exact HB.out)))); (case aL => have := LMc5.out; omega); intro v147 w8 ho hb hg hat; rw [← Ny146.out] at ho; have n0_ := Aside0.mk (blk_grown (g := gb145) (o := .cells #[.int .i64 ((rd_T24 l0 x8_1).f0), .int .i64 ((rd_T24 l0 x8_1).f1)] 24 (0, 0)) (by (with_reducible repeat (first | refine blk_drewN ?_ _ | refine blk_drew ?_ | refine blk_alloc ?_ _)); refine blk_put (cs := #[.int .i64 ((rd_T24 l0 x8_1).f0), .int .i64 0]) ?_ 1 _ rfl; (with_reducible repeat (first | refine blk_drewN ?_ _ | refine blk_drew ?_ | refine blk_alloc ?_ _)); refine blk_put (cs := #[.int .i64 0, .int .i64 0]) ?_ 0 _ rfl; (with_reducible repeat (first | refine blk_drewN ?_ _ | refine blk_drew ?_ | refine blk_alloc ?_ _)); exact BK145.out) hg (Kd.R_ne HO_3.out BK145.out (by decide))); have n1_ := Aside0.mk (hb); have n2_ := Aside0.mk (ho); clear BK145; clear HB; clear HO_3; have BK145 := n0_; have HB := n1_; have HO148 := n2_; clear n0_ n1_ n2_; clear ho hb hg hat))
              go_roundg k1
              case measure => have := HK1.out; omega
              case rel => exact ⟨(y146), (wrap64 (x8_1 + 1)), (by first | rfl | (simp; done) | (simp [*]; done)), H', ⟨by have := HK1.out; omega⟩, ⟨by (with_reducible repeat (first | apply Kd.R_alloc | apply Kd.R_drewN | apply Kd.R_drew)); exact HO148.out⟩, ⟨by repeat (first | (with_reducible first | exact HB.out | apply below_alloc | apply pw_below_drewN | apply below_drew1 | refine below_set ?_ GE145.out) | exact HB.out)⟩⟩
            · rw [if_neg c5] at H
              exact absurd H (by simp)
          · rw [if_neg c4] at H
            exact absurd H (by simp)
        · rw [if_neg c3] at H
          exact absurd H (by simp)
      · rw [if_neg c2] at H
        have c2b0 : decide (x8_1 < (l0.length : Int)) = false := decide_eq_false c2
        clear c2
        obtain rfl := Option.some.inj H
        go_wp2
        go_ret
        exact ⟨_, by first | rfl | (simp [errW_none, errW_some] <;> rfl) | (simp [*, errW_none, errW_some] <;> rfl), by (with_reducible repeat (first | apply Kd.R_alloc | apply Kd.R_drewN | apply Kd.R_drew)); exact HO_3.out, by repeat (first | (with_reducible first | exact HB.out | apply below_alloc | apply pw_below_drewN | apply below_drew1) | exact HB.out)⟩

/-! ### impl_rangesOf: function 25 -/
def impl_rangesOf.l0 : Nat → List (S24) → List (S56) → Int → Int → Option ((List (S24)))
  | 0, _, _, _, _ => none
  | k + 1, x3, x6, x7, x8 => if x8 < x7 then (if 0 ≤ x8 then (if x8 < (x6.length : Int) then (if x3.length < 8796093022208 then (impl_rangesOf.l0 k (x3 ++ [(⟨(rd_T56 x6 x8).f0, (rd_T56 x6 x8).f1⟩ : S24)]) x6 x7 (wrap64 (x8 + 1))) else (none)) else (none)) else (none)) else (some x3)
def impl_rangesOf.f (k : Nat) (l0 : List (S56)) : Option ((List (S24))) := impl_rangesOf.l0 k ([] : List (S24)) l0 (l0.length : Int) 0
theorem impl_rangesOf.mono_l : ∀ k, (∀ y0 y1 y2 y3, LeO (impl_rangesOf.l0 k y0 y1 y2 y3) (impl_rangesOf.l0 (k + 1) y0 y1 y2 y3))
  | 0 => fun _ _ _ _ r h => by simp [impl_rangesOf.l0] at h
  | k + 1 => by
    have ih0 := impl_rangesOf.mono_l k
    · intro y0 y1 y2 y3
      unfold impl_rangesOf.l0
      repeat' first
      | (with_reducible exact ih0 _ _ _ _)
      | (with_reducible exact LeO.refl _)
      | (with_reducible exact LeO.none _)
      | (with_reducible refine LeO.ite ?_ ?_)
      | (with_reducible refine LeO.bind ?_ (fun _ => ?_))
      | exact ih0 _ _ _ _
      | exact LeO.none _
      | refine LeO.ite ?_ ?_
      | refine LeO.bind ?_ (fun _ => ?_)
theorem impl_rangesOf.mono : ∀ a0 k, LeO (impl_rangesOf.f k a0) (impl_rangesOf.f (k + 1) a0) := by
  intro a0 k
  have ih0 := impl_rangesOf.mono_l k
  unfold impl_rangesOf.f
  repeat' first
      | (with_reducible exact ih0 _ _ _ _)
      | (with_reducible exact LeO.refl _)
      | (with_reducible exact LeO.none _)
      | (with_reducible refine LeO.ite ?_ ?_)
      | (with_reducible refine LeO.bind ?_ (fun _ => ?_))
      | exact ih0 _ _ _ _
      | exact LeO.none _
      | refine LeO.ite ?_ ?_
      | refine LeO.bind ?_ (fun _ => ?_)
set_option maxHeartbeats 8000000 in
set_option maxRecDepth 100000 in
theorem impl_rangesOf.calls (k : Nat) (A0 : Option Addr) (c0 : Nat) (l0 : List (S56)) (r : List (S24)) (w : World) (hr0 : Kd.C k56 w A0 l0.length l0) (hc0 : l0.length ≤ c0) (h : impl_rangesOf.f k l0 = some r) :
    Calls Try.prog 25 #[.slice A0 l0.length c0] w fun e w' => ∃ v0_ : Value, e = .returned (v0_) ∧ Kd.R k24 24 w' w.heap.size (fun _ => True) v0_ r ∧ Below w.heap.size w w' := by
  have hu56 := Try.underlying56
  have hu24 := Try.underlying24
  have HR0 := Aside0.mk hr0
  have HC0 := Aside0.mk hc0
  clear hr0 hc0
  have HB := Aside0.mk (Below.refl w.heap.size w)
  have H : (impl_rangesOf.l0 k ([] : List (S24)) l0 (l0.length : Int) 0) = some r := h
  clear h
  have H' := Aside0.mk H
  clear H
  go_enter Try.func25, Try.ntmps25
  go_wp2
  go_loopg [3, 8] k (fun kq v3 v8 w' => ∃ (x3_1 : List (S24)) (x8_1 : Int), v8 = .int .i64 x8_1 ∧ Aside0 (impl_rangesOf.l0 kq x3_1 l0 (l0.length : Int) x8_1 = some r) ∧ Aside0 (kq ≤ k) ∧ Aside0 (Kd.R k24 24 w' w.heap.size (fun _ => True) v3 x3_1) ∧ Aside0 (Below w.heap.size w w'))
  case atStart => exact ⟨(([] : List (S24))), (0), (by first | rfl | (simp; done) | (simp [*]; done)), H', ⟨Nat.le_refl _⟩, ⟨by first | exact Kd.R_nil _ _ _ _ _ | exact Kd.N_nil _ _ _ _ _ | exact Kd.V_nil _ _ _ _ _ | exact Kd.Q_nil _ _ _ _ _ | exact Kd.S_nil _ _ _ _ _⟩, ⟨by repeat (first | (with_reducible first | exact HB.out | apply below_alloc | apply pw_below_drewN | apply below_drew1) | exact HB.out)⟩⟩
  case round =>
    clear H'
    obtain ⟨x3_1, x8_1, rfl, HA, HK1, HO_3, HB⟩ := hrel
    cases gk with
    | zero => exact absurd HA.out (by simp [impl_rangesOf.l0])
    | succ k1 =>
      have H := HA.out
      clear HA
      simp only [impl_rangesOf.l0] at H
      by_cases c2 : x8_1 < (l0.length : Int)
      · rw [if_pos c2] at H
        have c2b0 : decide (x8_1 < (l0.length : Int)) = true := decide_eq_true c2
        clear c2
        by_cases c3 : 0 ≤ x8_1
        · rw [if_pos c3] at H
          have c3b0 : decide (0 ≤ x8_1) = true := decide_eq_true c3
          clear c3
          by_cases c4 : x8_1 < (l0.length : Int)
          · rw [if_pos c4] at H
            have c4b0 : decide (x8_1 < (l0.length : Int)) = true := decide_eq_true c4
            clear c4
            by_cases c5 : x3_1.length < 8796093022208
            · rw [if_pos c5] at H
              have LMc5 := Aside0.mk c5
              clear c5
              obtain ⟨y151, hy151⟩ : ∃ y_ : List (S24), y_ = (x3_1 ++ [(⟨(rd_T56 l0 x8_1).f0, (rd_T56 l0 x8_1).f1⟩ : S24)]) := ⟨_, rfl⟩
              replace H : (impl_rangesOf.l0 k1 y151 l0 (l0.length : Int) (wrap64 (x8_1 + 1))) = some r := by first | (rw [hy151]; with_reducible exact H) | (have H2_ := (Option.bind_some _ _).symm.trans H; rw [hy151]; with_reducible exact H2_) | (have H2_ := (Option.bind_some _ _).symm.trans H; with_reducible exact H2_) | with_reducible exact H | (rw [hy151]; exact H) | exact H
              have Ny151 := Aside0.mk hy151
              clear hy151
              have H' := Aside0.mk H
              clear H
              have p149 : 0 ≤ (x8_1 : Int) := of_decide_eq_true (by first | (with_reducible assumption) | assumption)
              have q149 : x8_1 < (l0.length : Int) := of_decide_eq_true (by first | (with_reducible assumption) | assumption)
              obtain ⟨ad149, e149, hx149_0, hx149_1⟩ := at_T56 HR0.out x8_1 p149 q149
              cases e149
              replace hx149_0 := (HB.out.cell (World.block_lt_of_cell? w _ hx149_0)).trans hx149_0
              replace hx149_1 := (HB.out.cell (World.block_lt_of_cell? w _ hx149_1)).trans hx149_1
              replace p149 := eq_true p149
              replace q149 := eq_true q149
              go_wp2_with (first | ((with_reducible refine gate_dst (N := 5) rfl ?_); refine box_event ?hg (N := 5) ?hd (cs := #[.int .i64 0, .int .i64 0]) (t := 56) ?hr ?_; (case hd => rfl); (case hg => rfl); (case hr => first | (go_simp; done) | (go_simp; rfl)); intro gb150 hg w6 hbox hb; have n0_ := Aside0.mk (Kd.R_below (by (with_reducible repeat (first | apply Kd.R_alloc | apply Kd.R_drewN | apply Kd.R_drew)); exact HO_3.out) hb); have n1_ := Aside0.mk (below_step (by repeat (first | (with_reducible first | exact HB.out | apply below_alloc | apply pw_below_drewN | apply below_drew1) | exact HB.out)) hb); have n2_ := Aside0.mk (hbox); have n3_ := Aside0.mk ((by rw [hg]; exact (below_size (by repeat (first | (with_reducible first | exact HB.out | apply below_alloc | apply pw_below_drewN | apply below_drew1) | exact HB.out))) : w.heap.size ≤ gb150)); have n4_ := Aside0.mk ((by rw [hg]; exact (below_size (by repeat (first | (with_reducible first | exact HB.out | apply below_alloc | apply pw_below_drewN | apply below_drew1) | exact HB.out))) : w.heap.size ≤ gb150)); clear HO_3; clear HB; have HO_3 := n0_; have HB := n1_; have BK150 := n2_; have GW150 := n3_; have GE150 := n4_; clear n0_ n1_ n2_ n3_ n4_; clear hb hbox hg; have hcz7_0 : w6.cell? ⟨gb150, 0, none⟩ = some (.int .i64 0) := (blk_cell BK150.out 0).trans rfl; have hcz7_1 : w6.cell? ⟨gb150, 1, none⟩ = some (.int .i64 0) := (blk_cell BK150.out 1).trans rfl; have hfz7_0 := blk_frozen BK150.out 0; have hfz7_1 := blk_frozen BK150.out 1) | ((with_reducible refine gate_builtin (b := .append) (xs := #[.tmp 12, .tmp 18]) rfl ?_); at_builtin; refine Kd.R_append k24 (w0 := w) w.heap.size rfl (.tmp 12) (.tmp 18) 22 24 (.agg #[(.int .i64 0), (.int .i64 0)]) 16 rfl Try.underlying22 info24 rfl (by decide) (by omega) u3 x3_1 (⟨(rd_T56 l0 x8_1).f0, (rd_T56 l0 x8_1).f1⟩ : S24) [.int .i64 ((rd_T56 l0 x8_1).f0), .int .i64 ((rd_T56 l0 x8_1).f1)] (fun _ => True) (fun _ => False) rfl (by first | (go_simp; done) | (go_simp; rfl)) ?aP (fun _ hk => hk.elim) ?aF ?aO ?aB ?aS ?aL ?_; (case aP => exact k24_mkM _ _ _ (⟨(rd_T56 l0 x8_1).f0, (rd_T56 l0 x8_1).f1⟩ : S24)); (case aB => exact (by repeat (first | (with_reducible first | exact HB.out | apply below_alloc | apply pw_below_drewN | apply below_drew1 | refine below_set ?_ GE150.out) | exact HB.out))); (case aF => exact (fun _ _ => trivial)); (case aO => exact (by (with_reducible repeat (first | apply Kd.R_alloc | apply Kd.R_drewN | apply Kd.R_drew)); exact Kd.R_mono (Kd.R_far (p := ⟨gb150, 1, none⟩) (Kd.R_far (p := ⟨gb150, 0, none⟩) (Kd.R_types HO_3.out BK150.out (by decide)) (fun _ hk => hk.2) (.int .i64 ((rd_T56 l0 x8_1).f0))) (fun _ hk => hk.2) (.int .i64 ((rd_T56 l0 x8_1).f1))) (fun _ hk => trivial))); (case aS => exact (below_size (by repeat (first | (with_reducible first | exact HB.out | apply below_alloc | apply pw_below_drewN | apply below_drew1 | refine below_set ?_ GE150.out) | exact HB.out)))); (case aL => have := LMc5.out; omega); intro v152 w8 ho hb hg hat; rw [← Ny151.out] at ho; have n0_ := Aside0.mk (blk_grown (g := gb150) (o := .cells #[.int .i64 ((rd_T56 l0 x8_1).f0), .int .i64 ((rd_T56 l0 x8_1).f1)] 56 (0, 0)) (by (with_reducible repeat (first | refine blk_drewN ?_ _ | refine blk_drew ?_ | refine blk_alloc ?_ _)); refine blk_put (cs := #[.int .i64 ((rd_T56 l0 x8_1).f0), .int .i64 0]) ?_ 1 _ rfl; (with_reducible repeat (first | refine blk_drewN ?_ _ | refine blk_drew ?_ | refine blk_alloc ?_ _)); refine blk_put (cs := #[.int .i64 0, .int .i64 0]) ?_ 0 _ rfl; (with_reducible repeat (first | refine blk_drewN ?_ _ | refine blk_drew ?_ | refine blk_alloc ?_ _)); exact BK150.out) hg (Kd.R_ne HO_3.out BK150.out (by decide))); have n1_ := Aside0.mk (hb); have n2_ := Aside0.mk (ho); clear BK150; clear HB; clear HO_3; have BK150 := n0_; have HB := n1_; have HO153 := n2_; clear n0_ n1_ n2_; clear ho hb hg hat))
              go_roundg k1
              case measure => have := HK1.out; omega
              case rel => exact ⟨(y151), (wrap64 (x8_1 + 1)), (by first | rfl | (simp; done) | (simp [*]; done)), H', ⟨by have := HK1.out; omega⟩, ⟨by (with_reducible repeat (first | apply Kd.R_alloc | apply Kd.R_drewN | apply Kd.R_drew)); exact HO153.out⟩, ⟨by repeat (first | (with_reducible first | exact HB.out | apply below_alloc | apply pw_below_drewN | apply below_drew1 | refine below_set ?_ GE150.out) | exact HB.out)⟩⟩
            · rw [if_neg c5] at H
              exact absurd H (by simp)
          · rw [if_neg c4] at H
            exact absurd H (by simp)
        · rw [if_neg c3] at H
          exact absurd H (by simp)
      · rw [if_neg c2] at H
        have c2b0 : decide (x8_1 < (l0.length : Int)) = false := decide_eq_false c2
        clear c2
        obtain rfl := Option.some.inj H
        go_wp2
        go_ret
        exact ⟨_, by first | rfl | (simp [errW_none, errW_some] <;> rfl) | (simp [*, errW_none, errW_some] <;> rfl), by (with_reducible repeat (first | apply Kd.R_alloc | apply Kd.R_drewN | apply Kd.R_drew)); exact HO_3.out, by repeat (first | (with_reducible first | exact HB.out | apply below_alloc | apply pw_below_drewN | apply below_drew1) | exact HB.out)⟩

end Go.Proofs.Ytepealmdnaondaa.PAll
