-- Printed by a program of this session (mkprint.py over the kit's print.py)
import Derived.Test.YtkgkdppjopilmaaPFnAppendSignedIsx0
import Derived.Test.YtkgkdppjopilmaaPFnAppendSignedIsx1
import Derived.Test.YtkgkdppjopilmaaGiven0
namespace Go.Proofs.Ytkgkdppjopilmaa.PFnAppendSignedIs
open Go.RowKit Go.Proofs.YtkgkdppjopilmaaW.PrintWords Go.Proofs.YtkgkdppjopilmaaW.PrintLast Go.Proofs.YtkgkdppjopilmaaW.PrintMore Go.Proofs.Ytkgkdppjopilmaa.Given
attribute [local go_sem] max2_int min2_int max_two min_two max_three min_three max_four min_four   -- for this text's walks alone
set_option linter.unusedVariables false
set_option linter.unusedSimpArgs false

/-! ### spec_Signed: function 18 -/
mutual
def spec_Signed.j1 : Nat → Int → Int → List Int → Option (List Int)
  | 0, _, _, _ => none
  | k + 1, x0, x1, x5 => spec_Signed.l1 k x0 x1 x5
def spec_Signed.l1 : Nat → Int → Int → List Int → Option (List Int)
  | 0, _, _, _ => none
  | k + 1, x0, x1, x5 => if x1 > 0 then (if x5.length < 140737488355328 then (spec_Signed.l1 k x0 (wrap64 (x1 - 1)) (x5 ++ [(Go.bits .and .i64 x0 127) % 256])) else (none)) else ((spec_carried.f k x5).bind fun t134 => (some t134))
def spec_Signed.l0 : Nat → Int → Int → List Int → Int → Option (List Int)
  | 0, _, _, _, _ => none
  | k + 1, x0, x1, x5, x6 => if x0 = 0 then (if ((x0 == (-1)) != (decide (x6 ≥ 64))) = true then (if x5.length < 140737488355328 then ((some (x5 ++ [(Go.bits .and .i64 x0 127) % 256] : List Int)).bind fun y119 => (if 0 ≤ (wrap64 ((y119.length : Int) - 1)) then (if (wrap64 ((y119.length : Int) - 1)) < (y119.length : Int) then (spec_Signed.l0 k (x0 / 128) x1 y119 (rd y119 (wrap64 ((y119.length : Int) - 1)))) else (none)) else (none))) else (none)) else (spec_Signed.j1 k x0 x1 x5)) else (if x0 = (-1) then (if ((x0 == (-1)) != (decide (x6 ≥ 64))) = true then (if x5.length < 140737488355328 then ((some (x5 ++ [(Go.bits .and .i64 x0 127) % 256] : List Int)).bind fun y123 => (if 0 ≤ (wrap64 ((y123.length : Int) - 1)) then (if (wrap64 ((y123.length : Int) - 1)) < (y123.length : Int) then (spec_Signed.l0 k (x0 / 128) x1 y123 (rd y123 (wrap64 ((y123.length : Int) - 1)))) else (none)) else (none))) else (none)) else (spec_Signed.j1 k x0 x1 x5)) else (if x5.length < 140737488355328 then ((some (x5 ++ [(Go.bits .and .i64 x0 127) % 256] : List Int)).bind fun y127 => (if 0 ≤ (wrap64 ((y127.length : Int) - 1)) then (if (wrap64 ((y127.length : Int) - 1)) < (y127.length : Int) then (spec_Signed.l0 k (x0 / 128) x1 y127 (rd y127 (wrap64 ((y127.length : Int) - 1)))) else (none)) else (none))) else (none)))
end
def spec_Signed.f (k : Nat) (a0 : Int) (a1 : Int) : Option (List Int) := (some (([(Go.bits .and .i64 a0 127) % 256] : List Int) : List Int)).bind fun y115 => (if 0 < (y115.length : Int) then (spec_Signed.l0 k (a0 / 128) a1 y115 (rd y115 0)) else (none))
theorem spec_Signed.mono_l : ∀ k, (∀ y0 y1 y2, LeO (spec_Signed.j1 k y0 y1 y2) (spec_Signed.j1 (k + 1) y0 y1 y2)) ∧ (∀ y0 y1 y2, LeO (spec_Signed.l1 k y0 y1 y2) (spec_Signed.l1 (k + 1) y0 y1 y2)) ∧ (∀ y0 y1 y2 y3, LeO (spec_Signed.l0 k y0 y1 y2 y3) (spec_Signed.l0 (k + 1) y0 y1 y2 y3))
  | 0 => ⟨fun _ _ _ r h => by simp [spec_Signed.j1] at h, fun _ _ _ r h => by simp [spec_Signed.l1] at h, fun _ _ _ _ r h => by simp [spec_Signed.l0] at h⟩
  | k + 1 => by
    obtain ⟨ih0, ih1, ih2⟩ := spec_Signed.mono_l k
    refine ⟨?_, ?_, ?_⟩
    · intro y0 y1 y2
      unfold spec_Signed.j1
      repeat' first
      | (with_reducible exact ih0 _ _ _)
      | (with_reducible exact ih1 _ _ _)
      | (with_reducible exact ih2 _ _ _ _)
      | (with_reducible exact spec_carried.mono _ _)
      | (with_reducible exact LeO.refl _)
      | (with_reducible exact LeO.none _)
      | (with_reducible refine LeO.ite ?_ ?_)
      | (with_reducible refine LeO.bind ?_ (fun _ => ?_))
      | exact ih0 _ _ _
      | exact ih1 _ _ _
      | exact ih2 _ _ _ _
      | exact spec_carried.mono _ _
      | exact LeO.none _
      | refine LeO.ite ?_ ?_
      | refine LeO.bind ?_ (fun _ => ?_)
    · intro y0 y1 y2
      unfold spec_Signed.l1
      repeat' first
      | (with_reducible exact ih0 _ _ _)
      | (with_reducible exact ih1 _ _ _)
      | (with_reducible exact ih2 _ _ _ _)
      | (with_reducible exact spec_carried.mono _ _)
      | (with_reducible exact LeO.refl _)
      | (with_reducible exact LeO.none _)
      | (with_reducible refine LeO.ite ?_ ?_)
      | (with_reducible refine LeO.bind ?_ (fun _ => ?_))
      | exact ih0 _ _ _
      | exact ih1 _ _ _
      | exact ih2 _ _ _ _
      | exact spec_carried.mono _ _
      | exact LeO.none _
      | refine LeO.ite ?_ ?_
      | refine LeO.bind ?_ (fun _ => ?_)
    · intro y0 y1 y2 y3
      unfold spec_Signed.l0
      repeat' first
      | (with_reducible exact ih0 _ _ _)
      | (with_reducible exact ih1 _ _ _)
      | (with_reducible exact ih2 _ _ _ _)
      | (with_reducible exact spec_carried.mono _ _)
      | (with_reducible exact LeO.refl _)
      | (with_reducible exact LeO.none _)
      | (with_reducible refine LeO.ite ?_ ?_)
      | (with_reducible refine LeO.bind ?_ (fun _ => ?_))
      | exact ih0 _ _ _
      | exact ih1 _ _ _
      | exact ih2 _ _ _ _
      | exact spec_carried.mono _ _
      | exact LeO.none _
      | refine LeO.ite ?_ ?_
      | refine LeO.bind ?_ (fun _ => ?_)
theorem spec_Signed.mono : ∀ a0 a1 k, LeO (spec_Signed.f k a0 a1) (spec_Signed.f (k + 1) a0 a1) := by
  intro a0 a1 k
  obtain ⟨ih0, ih1, ih2⟩ := spec_Signed.mono_l k
  unfold spec_Signed.f
  repeat' first
      | (with_reducible exact ih0 _ _ _)
      | (with_reducible exact ih1 _ _ _)
      | (with_reducible exact ih2 _ _ _ _)
      | (with_reducible exact spec_carried.mono _ _)
      | (with_reducible exact LeO.refl _)
      | (with_reducible exact LeO.none _)
      | (with_reducible refine LeO.ite ?_ ?_)
      | (with_reducible refine LeO.bind ?_ (fun _ => ?_))
      | exact ih0 _ _ _
      | exact ih1 _ _ _
      | exact ih2 _ _ _ _
      | exact spec_carried.mono _ _
      | exact LeO.none _
      | refine LeO.ite ?_ ?_
      | refine LeO.bind ?_ (fun _ => ?_)
set_option maxHeartbeats 8000000 in
set_option maxRecDepth 100000 in
theorem spec_Signed.calls (k : Nat) (a0 : Int) (a1 : Int) (r : List Int) (w : World) (h : spec_Signed.f k a0 a1 = some r) :
    Calls Try.prog 18 #[.int .i64 a0, .int .i64 a1] w fun e w' => ∃ v0_ : Value, e = .returned (v0_) ∧ Kd.R (Kd.int .u8) 5 w' w.heap.size (fun _ => True) v0_ r ∧ Below w.heap.size w w' := by
  have HB := Aside0.mk (Below.refl w.heap.size w)
  have H : ((some (([(Go.bits .and .i64 a0 127) % 256] : List Int) : List Int)).bind fun y115 => (if 0 < (y115.length : Int) then (spec_Signed.l0 k (a0 / 128) a1 y115 (rd y115 0)) else (none))) = some r := h
  clear h
  obtain ⟨y115, hy115⟩ : ∃ y_ : List Int, y_ = (([(Go.bits .and .i64 a0 127) % 256] : List Int)) := ⟨_, rfl⟩
  replace H : (if 0 < (y115.length : Int) then (spec_Signed.l0 k (a0 / 128) a1 y115 (rd y115 0)) else (none)) = some r := by first | (rw [hy115]; with_reducible exact H) | (have H2_ := (Option.bind_some _ _).symm.trans H; rw [hy115]; with_reducible exact H2_) | (have H2_ := (Option.bind_some _ _).symm.trans H; with_reducible exact H2_) | with_reducible exact H | (rw [hy115]; exact H) | exact H
  have Ny115 := Aside0.mk hy115
  clear hy115
  by_cases c3 : 0 < (y115.length : Int)
  · rw [if_pos c3] at H
    have c3b0 : decide (0 < (y115.length : Int)) = true := decide_eq_true c3
    have c3b1 : decide (0 < y115.length) = true := decide_eq_true (by omega)
    clear c3
    have HC4 := Aside0.mk H
    clear H
    go_enter Try.func18, Try.ntmps18
    go_upto_block 0 with (first | ((with_reducible refine gate_dst (N := 10) rfl ?_); refine Kd.R_lit (Kd.int .u8) _ 5 ?hg (N := 10) ?hd (xs := ([(Go.bits .and .i64 a0 127) % 256] : List Int)) (inner := [.int .u8 ((Go.bits .and .i64 a0 127) % 256)]) (ok := fun _ => True) (okp := fun _ => True) ?hr ?hp (fun _ hk => hk) trivial (Below.refl _ _) (Nat.le_refl _) (by simp) ?_; (case hd => rfl); (case hg => rfl); (case hr => first | (go_simp; done) | (go_simp; rfl)); (case hp => exact (Reps.one (show Kd.M (Kd.int .u8) _ _ _ ((Go.bits .and .i64 a0 127) % 256) [.int .u8 ((Go.bits .and .i64 a0 127) % 256)] from rfl) (Reps.none _ _))); intro v116 w5 ho6 hb hg_ hnew_; clear hg_ hnew_; (first | rw [← Ny115.out] at ho6 | (simp only [Int.reduceToNat] at ho6; rw [← Ny115.out] at ho6)); have n0_ := Aside0.mk (Kd.R_lower ho6 (below_size (by repeat (first | (with_reducible first | exact HB.out | apply below_alloc | apply pw_below_drewN | apply below_drew1) | exact HB.out)))); have n1_ := Aside0.mk (below_step (by repeat (first | (with_reducible first | exact HB.out | apply below_alloc | apply pw_below_drewN | apply below_drew1) | exact HB.out)) hb); clear HB; have HO117 := n0_; have HB := n1_; clear n0_ n1_; clear hb ho6; obtain ⟨Ao7, co7, eo7⟩ := Kd.R_slice HO117.out; subst eo7; have p118 : 0 ≤ (0 : Int) := (by omega); have q118 : 0 < (y115.length : Int) := of_decide_eq_true (by first | (with_reducible assumption) | assumption); obtain ⟨ad118, e118, hx118_0⟩ := Kd.at_int (Kd.R_reads' HO117.out).2.2 0 p118 q118; cases e118; have qi118 : (0 < y115.length) = True := eq_true (by omega); (try rw [show ((0 : Int)).toNat = 0 from rfl] at hx118_0); (try rw [Addr.add_zero'] at hx118_0); replace p118 := eq_true p118; replace q118 := eq_true q118))
    (try simp only [Act.put, List.setIfInBounds_toArray, List.set_cons_zero, List.set_cons_succ])
    go_cut [0, 5] (fun v0 v5 wc => ∃ (kq : Nat) (x0_3 : Int) (x5_3 : List Int), v0 = .int .i64 x0_3 ∧ Aside0 (spec_Signed.j1 kq x0_3 a1 x5_3 = some r) ∧ Aside0 (kq ≤ k) ∧ Aside0 (Kd.R (Kd.int .u8) 5 wc w.heap.size (fun _ => True) v5 x5_3) ∧ Aside0 (Below w.heap.size w wc))
    case first =>
      have H := HC4.out
      clear HC4
      have H' := Aside0.mk H
      clear H
      go_wp2
      go_loopg [0, 5, 6] k (fun kq v0 v5 v6 w' => ∃ (x0_1 : Int) (x5_1 : List Int) (x6_1 : Int), v0 = .int .i64 x0_1 ∧ v6 = .int .u8 x6_1 ∧ Aside0 (spec_Signed.l0 kq x0_1 a1 x5_1 x6_1 = some r) ∧ Aside0 (kq ≤ k) ∧ Aside0 (Kd.R (Kd.int .u8) 5 w' w.heap.size (fun _ => True) v5 x5_1) ∧ Aside0 (Below w.heap.size w w'))
      case atStart => exact ⟨(a0 / 128), (y115), (rd y115 0), (by first | rfl | (simp; done) | (simp [*]; done)), (by first | rfl | (simp; done) | (simp [*]; done)), H', ⟨Nat.le_refl _⟩, ⟨by (with_reducible repeat (first | apply Kd.R_alloc | apply Kd.R_drewN | apply Kd.R_drew)); exact HO117.out⟩, ⟨by repeat (first | (with_reducible first | exact HB.out | apply below_alloc | apply pw_below_drewN | apply below_drew1) | exact HB.out)⟩⟩
      case round =>
        clear H'
        try clear c1
        try clear p1
        try clear q1
        try clear hx1
        try clear qi1
        try clear p2
        try clear c3
        try clear c3b0
        try clear c3b1
        try clear hx118_0
        try clear p118
        try clear q118
        obtain ⟨x0_1, x5_1, x6_1, rfl, rfl, HA, HK1, HO_5, HB⟩ := hrel
        cases gk with
        | zero => exact absurd HA.out (by simp [spec_Signed.l0])
        | succ k1 =>
          have H := HA.out
          clear HA
          simp only [spec_Signed.l0] at H
          by_cases c8 : x0_1 = 0
          · rw [if_pos c8] at H
            have c8b0 : (x0_1 == 0) = true := beq_iff_eq.mpr c8
            have c8b1 : (x0_1 != 0) = false := bne_eq_false_iff_eq.mpr c8
            clear c8
            (first | rw [c8b0] | (simp only [i64_w, i32_w]; rw [c8b0]) | skip)
            by_cases c9 : ((x0_1 == (-1)) != (decide (x6_1 ≥ 64))) = true
            · rw [if_pos c9] at H
              have c9b0 : ((x0_1 == (-1)) != (decide (x6_1 ≥ 64))) = true := c9
              (try (have c9b1 : decide ((x0_1 == (-1)) = (decide (x6_1 ≥ 64))) = false := by simpa using c9))
              (try (have c9b2 : ((x0_1 == (-1)) == (decide (x6_1 ≥ 64))) = false := by simpa using c9))
              (try (have c9b3 : ¬ ((x0_1 == (-1)) = (decide (x6_1 ≥ 64))) := by simpa using c9))
              clear c9
              by_cases c10 : x5_1.length < 140737488355328
              · rw [if_pos c10] at H
                have LMc10 := Aside0.mk c10
                clear c10
                obtain ⟨y119, hy119⟩ : ∃ y_ : List Int, y_ = (x5_1 ++ [(Go.bits .and .i64 x0_1 127) % 256]) := ⟨_, rfl⟩
                replace H : (if 0 ≤ (wrap64 ((y119.length : Int) - 1)) then (if (wrap64 ((y119.length : Int) - 1)) < (y119.length : Int) then (spec_Signed.l0 k1 (x0_1 / 128) a1 y119 (rd y119 (wrap64 ((y119.length : Int) - 1)))) else (none)) else (none)) = some r := by first | (rw [hy119]; with_reducible exact H) | (have H2_ := (Option.bind_some _ _).symm.trans H; rw [hy119]; with_reducible exact H2_) | (have H2_ := (Option.bind_some _ _).symm.trans H; with_reducible exact H2_) | with_reducible exact H | (rw [hy119]; exact H) | exact H
                have Ny119 := Aside0.mk hy119
                clear hy119
                obtain ⟨ji11, hji11⟩ : ∃ j_ : Int, (wrap64 ((y119.length : Int) - 1)) = j_ := ⟨_, rfl⟩
                replace H : (if 0 ≤ (ji11) then (if (ji11) < (y119.length : Int) then (spec_Signed.l0 k1 (x0_1 / 128) a1 y119 (rd y119 (ji11))) else (none)) else (none)) = some r := by first | (rw [hji11] at H; exact H) | (simp only [hji11] at H ⊢; exact H)
                have hji11w : (IntKind.i64.wrap ((y119.length : Int) - 1)) = ji11 := (i64_w _).trans hji11
                by_cases c12 : 0 ≤ (ji11)
                · rw [if_pos c12] at H
                  have c12b0 : decide (0 ≤ (ji11)) = true := decide_eq_true c12
                  clear c12
                  by_cases c13 : (ji11) < (y119.length : Int)
                  · rw [if_pos c13] at H
                    have c13b0 : decide ((ji11) < (y119.length : Int)) = true := decide_eq_true c13
                    clear c13
                    have H' := Aside0.mk H
                    clear H
                    go_wp2_with (first | ((with_reducible refine gate_builtin (b := .append) (xs := #[.tmp 35, .tmp 39]) rfl ?_); at_builtin; refine Kd.R_append (Kd.int .u8) (w0 := w) w.heap.size rfl (.tmp 35) (.tmp 39) 22 5 (.int .u8 0) 1 rfl Try.underlying22 info5 rfl (by decide) (by omega) u5 x5_1 ((Go.bits .and .i64 x0_1 127) % 256) [.int .u8 ((Go.bits .and .i64 x0_1 127) % 256)] (fun _ => True) (fun _ => False) rfl rfl ?aP (fun _ hk => hk.elim) ?aF ?aO ?aB ?aS ?aL ?_; (case aP => exact rfl); (case aB => exact (by repeat (first | (with_reducible first | exact HB.out | apply below_alloc | apply pw_below_drewN | apply below_drew1) | exact HB.out))); (case aF => exact (fun _ _ => trivial)); (case aO => exact (by (with_reducible repeat (first | apply Kd.R_alloc | apply Kd.R_drewN | apply Kd.R_drew)); exact HO_5.out)); (case aS => exact (below_size (by repeat (first | (with_reducible first | exact HB.out | apply below_alloc | apply pw_below_drewN | apply below_drew1) | exact HB.out)))); (case aL => have := LMc10.out; omega); intro v120 w14 ho hb hg hat; rw [← Ny119.out] at ho; have n0_ := Aside0.mk (hb); have n1_ := Aside0.mk (ho); clear HB; clear HO_5; have HB := n0_; have HO121 := n1_; clear n0_ n1_; clear ho hb hg hat; obtain ⟨Ao15, co15, eo15⟩ := Kd.R_slice HO121.out; subst eo15; have p122 : 0 ≤ ((ji11) : Int) := of_decide_eq_true (by first | (with_reducible assumption) | assumption); have q122 : (ji11) < (y119.length : Int) := of_decide_eq_true (by first | (with_reducible assumption) | assumption); obtain ⟨ad122, e122, hx122_0⟩ := Kd.at_int (Kd.R_reads' HO121.out).2.2 (ji11) p122 q122; cases e122; replace p122 := eq_true p122; replace q122 := eq_true q122))
                    go_roundg k1
                    case measure => have := HK1.out; omega
                    case rel => exact ⟨(x0_1 / 128), (y119), (rd y119 (ji11)), (by first | rfl | (simp; done) | (simp [*]; done)), (by first | rfl | (simp; done) | (simp only [← hji11] <;> (first | rfl | simp)) | (simp [*]; done)), H', ⟨by have := HK1.out; omega⟩, ⟨by (with_reducible repeat (first | apply Kd.R_alloc | apply Kd.R_drewN | apply Kd.R_drew)); exact HO121.out⟩, ⟨by repeat (first | (with_reducible first | exact HB.out | apply below_alloc | apply pw_below_drewN | apply below_drew1) | exact HB.out)⟩⟩
                  · rw [if_neg c13] at H
                    exact absurd H (by simp)
                · rw [if_neg c12] at H
                  exact absurd H (by simp)
              · rw [if_neg c10] at H
                exact absurd H (by simp)
            · rw [if_neg c9] at H
              have c9b0 : ((x0_1 == (-1)) != (decide (x6_1 ≥ 64))) = false := by simpa using c9
              (try (have c9b1 : decide ((x0_1 == (-1)) = (decide (x6_1 ≥ 64))) = true := by simpa using c9))
              (try (have c9b2 : ((x0_1 == (-1)) == (decide (x6_1 ≥ 64))) = true := by simpa using c9))
              clear c9
              have H' := Aside0.mk H
              clear H
              go_wp2
              go_meet
              case rel => exact ⟨_, (x0_1), (x5_1), (by first | rfl | (simp; done) | (simp [*]; done)), H', ⟨by have := HK1.out; first | omega | exact Nat.le_refl _⟩, ⟨by (with_reducible repeat (first | apply Kd.R_alloc | apply Kd.R_drewN | apply Kd.R_drew)); exact HO_5.out⟩, ⟨by repeat (first | (with_reducible first | exact HB.out | apply below_alloc | apply pw_below_drewN | apply below_drew1) | exact HB.out)⟩⟩
          · rw [if_neg c8] at H
            have c8b0 : (x0_1 == 0) = false := beq_eq_false_iff_ne.mpr c8
            have c8b1 : (x0_1 != 0) = true := bne_iff_ne.mpr c8
            (first | rw [c8b0] | (simp only [i64_w, i32_w]; rw [c8b0]) | skip)
            by_cases c16 : x0_1 = (-1)
            · rw [if_pos c16] at H
              have c16b0 : (x0_1 == (-1)) = true := beq_iff_eq.mpr c16
              have c16b1 : (x0_1 != (-1)) = false := bne_eq_false_iff_eq.mpr c16
              clear c16
              by_cases c17 : ((x0_1 == (-1)) != (decide (x6_1 ≥ 64))) = true
              · rw [if_pos c17] at H
                have c17b0 : ((x0_1 == (-1)) != (decide (x6_1 ≥ 64))) = true := c17
                (try (have c17ztrue : decide (64 ≤ x6_1) = true := by have z_ := c17b0; rw [c16b0] at z_; simpa using z_))
                (try (have c17zfalse : decide (64 ≤ x6_1) = false := by have z_ := c17b0; rw [c16b0] at z_; simpa using z_))
                (try (have c17b1 : decide ((x0_1 == (-1)) = (decide (x6_1 ≥ 64))) = false := by simpa using c17))
                (try (have c17b2 : ((x0_1 == (-1)) == (decide (x6_1 ≥ 64))) = false := by simpa using c17))
                (try (have c17b3 : ¬ ((x0_1 == (-1)) = (decide (x6_1 ≥ 64))) := by simpa using c17))
                clear c17
                by_cases c18 : x5_1.length < 140737488355328
                · rw [if_pos c18] at H
                  have LMc18 := Aside0.mk c18
                  clear c18
                  obtain ⟨y123, hy123⟩ : ∃ y_ : List Int, y_ = (x5_1 ++ [(Go.bits .and .i64 x0_1 127) % 256]) := ⟨_, rfl⟩
                  replace H : (if 0 ≤ (wrap64 ((y123.length : Int) - 1)) then (if (wrap64 ((y123.length : Int) - 1)) < (y123.length : Int) then (spec_Signed.l0 k1 (x0_1 / 128) a1 y123 (rd y123 (wrap64 ((y123.length : Int) - 1)))) else (none)) else (none)) = some r := by first | (rw [hy123]; with_reducible exact H) | (have H2_ := (Option.bind_some _ _).symm.trans H; rw [hy123]; with_reducible exact H2_) | (have H2_ := (Option.bind_some _ _).symm.trans H; with_reducible exact H2_) | with_reducible exact H | (rw [hy123]; exact H) | exact H
                  have Ny123 := Aside0.mk hy123
                  clear hy123
                  obtain ⟨ji19, hji19⟩ : ∃ j_ : Int, (wrap64 ((y123.length : Int) - 1)) = j_ := ⟨_, rfl⟩
                  replace H : (if 0 ≤ (ji19) then (if (ji19) < (y123.length : Int) then (spec_Signed.l0 k1 (x0_1 / 128) a1 y123 (rd y123 (ji19))) else (none)) else (none)) = some r := by first | (rw [hji19] at H; exact H) | (simp only [hji19] at H ⊢; exact H)
                  have hji19w : (IntKind.i64.wrap ((y123.length : Int) - 1)) = ji19 := (i64_w _).trans hji19
                  by_cases c20 : 0 ≤ (ji19)
                  · rw [if_pos c20] at H
                    have c20b0 : decide (0 ≤ (ji19)) = true := decide_eq_true c20
                    clear c20
                    by_cases c21 : (ji19) < (y123.length : Int)
                    · rw [if_pos c21] at H
                      have c21b0 : decide ((ji19) < (y123.length : Int)) = true := decide_eq_true c21
                      clear c21
                      have H' := Aside0.mk H
                      clear H
                      go_wp2_with (first | ((with_reducible refine gate_builtin (b := .append) (xs := #[.tmp 35, .tmp 39]) rfl ?_); at_builtin; refine Kd.R_append (Kd.int .u8) (w0 := w) w.heap.size rfl (.tmp 35) (.tmp 39) 22 5 (.int .u8 0) 1 rfl Try.underlying22 info5 rfl (by decide) (by omega) u5 x5_1 ((Go.bits .and .i64 x0_1 127) % 256) [.int .u8 ((Go.bits .and .i64 x0_1 127) % 256)] (fun _ => True) (fun _ => False) rfl rfl ?aP (fun _ hk => hk.elim) ?aF ?aO ?aB ?aS ?aL ?_; (case aP => exact rfl); (case aB => exact (by repeat (first | (with_reducible first | exact HB.out | apply below_alloc | apply pw_below_drewN | apply below_drew1) | exact HB.out))); (case aF => exact (fun _ _ => trivial)); (case aO => exact (by (with_reducible repeat (first | apply Kd.R_alloc | apply Kd.R_drewN | apply Kd.R_drew)); exact HO_5.out)); (case aS => exact (below_size (by repeat (first | (with_reducible first | exact HB.out | apply below_alloc | apply pw_below_drewN | apply below_drew1) | exact HB.out)))); (case aL => have := LMc18.out; omega); intro v124 w22 ho hb hg hat; rw [← Ny123.out] at ho; have n0_ := Aside0.mk (hb); have n1_ := Aside0.mk (ho); clear HB; clear HO_5; have HB := n0_; have HO125 := n1_; clear n0_ n1_; clear ho hb hg hat; obtain ⟨Ao23, co23, eo23⟩ := Kd.R_slice HO125.out; subst eo23; have p126 : 0 ≤ ((ji19) : Int) := of_decide_eq_true (by first | (with_reducible assumption) | assumption); have q126 : (ji19) < (y123.length : Int) := of_decide_eq_true (by first | (with_reducible assumption) | assumption); obtain ⟨ad126, e126, hx126_0⟩ := Kd.at_int (Kd.R_reads' HO125.out).2.2 (ji19) p126 q126; cases e126; replace p126 := eq_true p126; replace q126 := eq_true q126))
                      go_roundg k1
                      case measure => have := HK1.out; omega
                      case rel => exact ⟨(x0_1 / 128), (y123), (rd y123 (ji19)), (by first | rfl | (simp; done) | (simp [*]; done)), (by first | rfl | (simp; done) | (simp only [← hji19] <;> (first | rfl | simp)) | (simp [*]; done)), H', ⟨by have := HK1.out; omega⟩, ⟨by (with_reducible repeat (first | apply Kd.R_alloc | apply Kd.R_drewN | apply Kd.R_drew)); exact HO125.out⟩, ⟨by repeat (first | (with_reducible first | exact HB.out | apply below_alloc | apply pw_below_drewN | apply below_drew1) | exact HB.out)⟩⟩
                    · rw [if_neg c21] at H
                      exact absurd H (by simp)
                  · rw [if_neg c20] at H
                    exact absurd H (by simp)
                · rw [if_neg c18] at H
                  exact absurd H (by simp)
              · rw [if_neg c17] at H
                have c17b0 : ((x0_1 == (-1)) != (decide (x6_1 ≥ 64))) = false := by simpa using c17
                (try (have c17ztrue : decide (64 ≤ x6_1) = true := by have z_ := c17b0; rw [c16b0] at z_; simpa using z_))
                (try (have c17zfalse : decide (64 ≤ x6_1) = false := by have z_ := c17b0; rw [c16b0] at z_; simpa using z_))
                (try (have c17b1 : decide ((x0_1 == (-1)) = (decide (x6_1 ≥ 64))) = true := by simpa using c17))
                (try (have c17b2 : ((x0_1 == (-1)) == (decide (x6_1 ≥ 64))) = true := by simpa using c17))
                clear c17
                have H' := Aside0.mk H
                clear H
                go_wp2
                go_meet
                case rel => exact ⟨_, (x0_1), (x5_1), (by first | rfl | (simp; done) | (simp [*]; done)), H', ⟨by have := HK1.out; first | omega | exact Nat.le_refl _⟩, ⟨by (with_reducible repeat (first | apply Kd.R_alloc | apply Kd.R_drewN | apply Kd.R_drew)); exact HO_5.out⟩, ⟨by repeat (first | (with_reducible first | exact HB.out | apply below_alloc | apply pw_below_drewN | apply below_drew1) | exact HB.out)⟩⟩
            · rw [if_neg c16] at H
              have c16b0 : (x0_1 == (-1)) = false := beq_eq_false_iff_ne.mpr c16
              have c16b1 : (x0_1 != (-1)) = true := bne_iff_ne.mpr c16
              by_cases c24 : x5_1.length < 140737488355328
              · rw [if_pos c24] at H
                have LMc24 := Aside0.mk c24
                clear c24
                obtain ⟨y127, hy127⟩ : ∃ y_ : List Int, y_ = (x5_1 ++ [(Go.bits .and .i64 x0_1 127) % 256]) := ⟨_, rfl⟩
                replace H : (if 0 ≤ (wrap64 ((y127.length : Int) - 1)) then (if (wrap64 ((y127.length : Int) - 1)) < (y127.length : Int) then (spec_Signed.l0 k1 (x0_1 / 128) a1 y127 (rd y127 (wrap64 ((y127.length : Int) - 1)))) else (none)) else (none)) = some r := by first | (rw [hy127]; with_reducible exact H) | (have H2_ := (Option.bind_some _ _).symm.trans H; rw [hy127]; with_reducible exact H2_) | (have H2_ := (Option.bind_some _ _).symm.trans H; with_reducible exact H2_) | with_reducible exact H | (rw [hy127]; exact H) | exact H
                have Ny127 := Aside0.mk hy127
                clear hy127
                obtain ⟨ji25, hji25⟩ : ∃ j_ : Int, (wrap64 ((y127.length : Int) - 1)) = j_ := ⟨_, rfl⟩
                replace H : (if 0 ≤ (ji25) then (if (ji25) < (y127.length : Int) then (spec_Signed.l0 k1 (x0_1 / 128) a1 y127 (rd y127 (ji25))) else (none)) else (none)) = some r := by first | (rw [hji25] at H; exact H) | (simp only [hji25] at H ⊢; exact H)
                have hji25w : (IntKind.i64.wrap ((y127.length : Int) - 1)) = ji25 := (i64_w _).trans hji25
                by_cases c26 : 0 ≤ (ji25)
                · rw [if_pos c26] at H
                  have c26b0 : decide (0 ≤ (ji25)) = true := decide_eq_true c26
                  clear c26
                  by_cases c27 : (ji25) < (y127.length : Int)
                  · rw [if_pos c27] at H
                    have c27b0 : decide ((ji25) < (y127.length : Int)) = true := decide_eq_true c27
                    clear c27
                    have H' := Aside0.mk H
                    clear H
                    go_wp2_with (first | ((with_reducible refine gate_builtin (b := .append) (xs := #[.tmp 35, .tmp 39]) rfl ?_); at_builtin; refine Kd.R_append (Kd.int .u8) (w0 := w) w.heap.size rfl (.tmp 35) (.tmp 39) 22 5 (.int .u8 0) 1 rfl Try.underlying22 info5 rfl (by decide) (by omega) u5 x5_1 ((Go.bits .and .i64 x0_1 127) % 256) [.int .u8 ((Go.bits .and .i64 x0_1 127) % 256)] (fun _ => True) (fun _ => False) rfl rfl ?aP (fun _ hk => hk.elim) ?aF ?aO ?aB ?aS ?aL ?_; (case aP => exact rfl); (case aB => exact (by repeat (first | (with_reducible first | exact HB.out | apply below_alloc | apply pw_below_drewN | apply below_drew1) | exact HB.out))); (case aF => exact (fun _ _ => trivial)); (case aO => exact (by (with_reducible repeat (first | apply Kd.R_alloc | apply Kd.R_drewN | apply Kd.R_drew)); exact HO_5.out)); (case aS => exact (below_size (by repeat (first | (with_reducible first | exact HB.out | apply below_alloc | apply pw_below_drewN | apply below_drew1) | exact HB.out)))); (case aL => have := LMc24.out; omega); intro v128 w28 ho hb hg hat; rw [← Ny127.out] at ho; have n0_ := Aside0.mk (hb); have n1_ := Aside0.mk (ho); clear HB; clear HO_5; have HB := n0_; have HO129 := n1_; clear n0_ n1_; clear ho hb hg hat; obtain ⟨Ao29, co29, eo29⟩ := Kd.R_slice HO129.out; subst eo29; have p130 : 0 ≤ ((ji25) : Int) := of_decide_eq_true (by first | (with_reducible assumption) | assumption); have q130 : (ji25) < (y127.length : Int) := of_decide_eq_true (by first | (with_reducible assumption) | assumption); obtain ⟨ad130, e130, hx130_0⟩ := Kd.at_int (Kd.R_reads' HO129.out).2.2 (ji25) p130 q130; cases e130; replace p130 := eq_true p130; replace q130 := eq_true q130))
                    go_roundg k1
                    case measure => have := HK1.out; omega
                    case rel => exact ⟨(x0_1 / 128), (y127), (rd y127 (ji25)), (by first | rfl | (simp; done) | (simp [*]; done)), (by first | rfl | (simp; done) | (simp only [← hji25] <;> (first | rfl | simp)) | (simp [*]; done)), H', ⟨by have := HK1.out; omega⟩, ⟨by (with_reducible repeat (first | apply Kd.R_alloc | apply Kd.R_drewN | apply Kd.R_drew)); exact HO129.out⟩, ⟨by repeat (first | (with_reducible first | exact HB.out | apply below_alloc | apply pw_below_drewN | apply below_drew1) | exact HB.out)⟩⟩
                  · rw [if_neg c27] at H
                    exact absurd H (by simp)
                · rw [if_neg c26] at H
                  exact absurd H (by simp)
              · rw [if_neg c24] at H
                exact absurd H (by simp)
    case rest =>
      clear HC4
      try clear c1
      try clear p1
      try clear q1
      try clear hx1
      try clear qi1
      try clear c2
      try clear p2
      try clear c3
      try clear c3b0
      try clear c3b1
      try clear p6
      try clear c8
      try clear c8b0
      try clear c8b1
      try clear c9
      try clear c9b0
      try clear c9b1
      try clear c9b2
      try clear c10
      try clear p11
      try clear q11
      try clear hx11
      try clear qi11
      try clear c12
      try clear c12b0
      try clear p12
      try clear q12
      try clear hx12
      try clear c13
      try clear c13b0
      try clear p13
      try clear q13
      try clear hx13
      try clear c16
      try clear c16b0
      try clear c16b1
      try clear c17
      try clear c17b0
      try clear c17b1
      try clear c17b2
      try clear c18
      try clear c20
      try clear c20b0
      try clear c21
      try clear c21b0
      try clear c24
      try clear c26
      try clear c26b0
      try clear c27
      try clear c27b0
      try clear hx118_0
      try clear hx122_0
      try clear hx126_0
      try clear hx130_0
      try clear p1
      try clear p118
      try clear p122
      try clear p126
      try clear p130
      try clear p2
      try clear q1
      try clear q118
      try clear q122
      try clear q126
      try clear q130
      obtain ⟨kq, x0_3, x5_3, rfl, HA, HJ3, HO_5, HB⟩ := hcut
      cases kq with
      | zero => exact absurd HA.out (by simp [spec_Signed.j1])
      | succ kj3 =>
        have H := HA.out
        clear HA
        simp only [spec_Signed.j1] at H
        have H' := Aside0.mk H
        clear H
        go_wp2
        go_loopg [1, 5] kj3 (fun kq v1 v5 w' => ∃ (x1_2 : Int) (x5_2 : List Int), v1 = .int .i64 x1_2 ∧ Aside0 (spec_Signed.l1 kq x0_3 x1_2 x5_2 = some r) ∧ Aside0 (kq ≤ kj3) ∧ Aside0 (Kd.R (Kd.int .u8) 5 w' w.heap.size (fun _ => True) v5 x5_2) ∧ Aside0 (Below w.heap.size w w'))
        case atStart => exact ⟨(a1), (x5_3), (by first | rfl | (simp; done) | (simp [*]; done)), H', ⟨Nat.le_refl _⟩, ⟨by (with_reducible repeat (first | apply Kd.R_alloc | apply Kd.R_drewN | apply Kd.R_drew)); exact HO_5.out⟩, ⟨by repeat (first | (with_reducible first | exact HB.out | apply below_alloc | apply pw_below_drewN | apply below_drew1) | exact HB.out)⟩⟩
        case round =>
          clear H'
          try clear c1
          try clear p1
          try clear q1
          try clear hx1
          try clear qi1
          try clear c2
          try clear p2
          try clear c3
          try clear c3b0
          try clear c3b1
          try clear p6
          try clear c8
          try clear c8b0
          try clear c8b1
          try clear c9
          try clear c9b0
          try clear c9b1
          try clear c9b2
          try clear c10
          try clear p11
          try clear q11
          try clear hx11
          try clear qi11
          try clear c12
          try clear c12b0
          try clear p12
          try clear q12
          try clear hx12
          try clear c13
          try clear c13b0
          try clear p13
          try clear q13
          try clear hx13
          try clear c16
          try clear c16b0
          try clear c16b1
          try clear c17
          try clear c17b0
          try clear c17b1
          try clear c17b2
          try clear c18
          try clear c20
          try clear c20b0
          try clear c21
          try clear c21b0
          try clear c24
          try clear c26
          try clear c26b0
          try clear c27
          try clear c27b0
          try clear hx118_0
          try clear hx122_0
          try clear hx126_0
          try clear hx130_0
          try clear p1
          try clear p11
          try clear p118
          try clear p12
          try clear p122
          try clear p126
          try clear p13
          try clear p130
          try clear p2
          try clear p6
          try clear q1
          try clear q11
          try clear q118
          try clear q12
          try clear q122
          try clear q126
          try clear q13
          try clear q130
          obtain ⟨x1_2, x5_2, rfl, HA, HK2, HO_5, HB⟩ := hrel
          cases gk with
          | zero => exact absurd HA.out (by simp [spec_Signed.l1])
          | succ k2 =>
            have H := HA.out
            clear HA
            simp only [spec_Signed.l1] at H
            by_cases c30 : x1_2 > 0
            · rw [if_pos c30] at H
              have c30b0 : decide (0 < x1_2) = true := decide_eq_true c30
              clear c30
              by_cases c31 : x5_2.length < 140737488355328
              · rw [if_pos c31] at H
                have LMc31 := Aside0.mk c31
                clear c31
                obtain ⟨y131, hy131⟩ : ∃ y_ : List Int, y_ = (x5_2 ++ [(Go.bits .and .i64 x0_3 127) % 256]) := ⟨_, rfl⟩
                replace H : (spec_Signed.l1 k2 x0_3 (wrap64 (x1_2 - 1)) y131) = some r := by first | (rw [hy131]; with_reducible exact H) | (have H2_ := (Option.bind_some _ _).symm.trans H; rw [hy131]; with_reducible exact H2_) | (have H2_ := (Option.bind_some _ _).symm.trans H; with_reducible exact H2_) | with_reducible exact H | (rw [hy131]; exact H) | exact H
                have Ny131 := Aside0.mk hy131
                clear hy131
                have H' := Aside0.mk H
                clear H
                go_wp2_with (first | ((with_reducible refine gate_builtin (b := .append) (xs := #[.tmp 47, .tmp 51]) rfl ?_); at_builtin; refine Kd.R_append (Kd.int .u8) (w0 := w) w.heap.size rfl (.tmp 47) (.tmp 51) 22 5 (.int .u8 0) 1 rfl Try.underlying22 info5 rfl (by decide) (by omega) u5 x5_2 ((Go.bits .and .i64 x0_3 127) % 256) [.int .u8 ((Go.bits .and .i64 x0_3 127) % 256)] (fun _ => True) (fun _ => False) rfl rfl ?aP (fun _ hk => hk.elim) ?aF ?aO ?aB ?aS ?aL ?_; (case aP => exact rfl); (case aB => exact (by repeat (first | (with_reducible first | exact HB.out | apply below_alloc | apply pw_below_drewN | apply below_drew1) | exact HB.out))); (case aF => exact (fun _ _ => trivial)); (case aO => exact (by (with_reducible repeat (first | apply Kd.R_alloc | apply Kd.R_drewN | apply Kd.R_drew)); exact HO_5.out)); (case aS => exact (below_size (by repeat (first | (with_reducible first | exact HB.out | apply below_alloc | apply pw_below_drewN | apply below_drew1) | exact HB.out)))); (case aL => have := LMc31.out; omega); intro v132 w32 ho hb hg hat; rw [← Ny131.out] at ho; have n0_ := Aside0.mk (hb); have n1_ := Aside0.mk (ho); clear HB; clear HO_5; have HB := n0_; have HO133 := n1_; clear n0_ n1_; clear ho hb hg hat))
                go_roundg k2
                case measure => have := HJ3.out; have := HK2.out; omega
                case rel => exact ⟨(wrap64 (x1_2 - 1)), (y131), (by first | rfl | (simp; done) | (simp [*]; done)), H', ⟨by have := HJ3.out; have := HK2.out; omega⟩, ⟨by (with_reducible repeat (first | apply Kd.R_alloc | apply Kd.R_drewN | apply Kd.R_drew)); exact HO133.out⟩, ⟨by repeat (first | (with_reducible first | exact HB.out | apply below_alloc | apply pw_below_drewN | apply below_drew1) | exact HB.out)⟩⟩
              · rw [if_neg c31] at H
                exact absurd H (by simp)
            · rw [if_neg c30] at H
              have c30b0 : decide (0 < x1_2) = false := decide_eq_false c30
              clear c30
              replace H := Option.bind_eq_some_iff.mp H
              obtain ⟨t134, A330, H⟩ := H
              replace H : (some t134) = some r := H
              have A33 := Aside0.mk A330
              clear A330
              obtain rfl := Option.some.inj H
              obtain ⟨Ao34, co34, eo34⟩ := Kd.R_slice HO_5.out
              subst eo34
              go_wp2_with (first | ((with_reducible refine gate_callee (f := 29) rfl ?_); refine goesL_ (some 54) rfl rfl Try.func29 (by kernel_rfl) rfl #[.slice Ao34 x5_2.length co34] rfl (by (try simp only [List.map_toArray, List.map_cons, List.map_nil]); first | done | rfl | (simp only [List.length_drop, List.length_take]; rfl)) ?_; (with_reducible refine (spec_carried.calls k2 (fun k_ => some k_ = (.slice Ao34 x5_2.length co34 : Value).ownBlock) (.slice Ao34 x5_2.length co34) x5_2 t134 w _ ?side1 ?side2 A33.out).mono ?_); (case side1 => repeat (first | (with_reducible first | exact HB.out | apply below_alloc | apply pw_below_drewN | apply below_drew1) | exact HB.out)); (case side2 => exact Kd.R_tight rfl HO_5.out); rintro e w35 ⟨v135, rfl, ho0, hb, hkp⟩; refine ⟨_, rfl, ?_⟩; have n0_ := Aside0.mk (Kd.R_mono (ok' := fun k_ => True) ho0 (fun k_ hk_ => trivial)); have n1_ := Aside0.mk (hb); clear HB; clear HO_5; have HO136 := n0_; have HB := n1_; clear n0_ n1_; (try clear hb); (try clear hkp); (try clear ho0)))
              go_ret
              exact ⟨_, by first | rfl | (simp [errW_none, errW_some] <;> rfl) | (simp [*, errW_none, errW_some] <;> rfl), by (with_reducible repeat (first | apply Kd.R_alloc | apply Kd.R_drewN | apply Kd.R_drew)); exact HO136.out, by repeat (first | (with_reducible first | exact HB.out | apply below_alloc | apply pw_below_drewN | apply below_drew1) | exact HB.out)⟩
  · rw [if_neg c3] at H
    exact absurd H (by simp)

/-! ### laws_FnAppendSignedIs: function 4 -/
def laws_FnAppendSignedIs.f (k : Nat) (l0 : List Int) (a1 : Int) : Option (Bool) := if (l0.length : Int) > 2147483647 then (some true) else (if (l0.length : Int) > 65536 then (some true) else ((impl_AppendSigned.f k l0 a1).bind fun t137 => ((some (([] : List Int) : List Int)).bind fun y140 => (if y140.length + l0.length < 140737488355328 then ((some (y140 ++ l0 : List Int)).bind fun y143 => ((spec_Signed.f k a1 0).bind fun t146 => (if y143.length + t146.length < 140737488355328 then ((laws_sameBytes.f t137 (y143 ++ t146)).bind fun t152 => (some t152)) else (none)))) else (none)))))
theorem laws_FnAppendSignedIs.mono : ∀ a0 a1 k, LeO (laws_FnAppendSignedIs.f k a0 a1) (laws_FnAppendSignedIs.f (k + 1) a0 a1) := by
  intro a0 a1 k
  unfold laws_FnAppendSignedIs.f
  repeat' first
      | (with_reducible exact impl_AppendSigned.mono _ _ _)
      | (with_reducible exact spec_Signed.mono _ _ _)
      | (with_reducible exact LeO.refl _)
      | (with_reducible exact LeO.none _)
      | (with_reducible refine LeO.ite ?_ ?_)
      | (with_reducible refine LeO.bind ?_ (fun _ => ?_))
      | exact impl_AppendSigned.mono _ _ _
      | exact spec_Signed.mono _ _ _
      | exact LeO.none _
      | refine LeO.ite ?_ ?_
      | refine LeO.bind ?_ (fun _ => ?_)
set_option maxHeartbeats 8000000 in
set_option maxRecDepth 100000 in
theorem laws_FnAppendSignedIs.calls (k : Nat) (A0 : Option Addr) (c0 : Nat) (l0 : List Int) (a1 : Int) (r : Bool) (w : World) (hr0 : Kd.C (Kd.int .u8) w A0 l0.length l0) (hc0 : l0.length ≤ c0) (h : laws_FnAppendSignedIs.f k l0 a1 = some r) :
    Calls Try.prog 4 #[.slice A0 l0.length c0, .int .i64 a1] w fun e w' => e = .returned (.bool r) ∧ Below w.heap.size w w' := by
  have HR0 := Aside0.mk hr0
  have HC0 := Aside0.mk hc0
  clear hr0 hc0
  have HB := Aside0.mk (Below.refl w.heap.size w)
  have H : (if (l0.length : Int) > 2147483647 then (some true) else (if (l0.length : Int) > 65536 then (some true) else ((impl_AppendSigned.f k l0 a1).bind fun t137 => ((some (([] : List Int) : List Int)).bind fun y140 => (if y140.length + l0.length < 140737488355328 then ((some (y140 ++ l0 : List Int)).bind fun y143 => ((spec_Signed.f k a1 0).bind fun t146 => (if y143.length + t146.length < 140737488355328 then ((laws_sameBytes.f t137 (y143 ++ t146)).bind fun t152 => (some t152)) else (none)))) else (none)))))) = some r := h
  clear h
  by_cases c3 : (l0.length : Int) > 2147483647
  · rw [if_pos c3] at H
    have c3b0 : decide (2147483647 < (l0.length : Int)) = true := decide_eq_true c3
    have c3b1 : decide (2147483647 < l0.length) = true := decide_eq_true (by omega)
    clear c3
    obtain rfl := Option.some.inj H
    go_enter Try.func4, Try.ntmps4
    go_wp2
    go_ret
    exact ⟨by first | rfl | (simp [errW_none, errW_some] <;> rfl) | (simp [*, errW_none, errW_some] <;> rfl), by repeat (first | (with_reducible first | exact HB.out | apply below_alloc | apply pw_below_drewN | apply below_drew1) | exact HB.out)⟩
  · rw [if_neg c3] at H
    have c3b0 : decide (2147483647 < (l0.length : Int)) = false := decide_eq_false c3
    have c3b1 : decide (2147483647 < l0.length) = false := decide_eq_false (by omega)
    clear c3
    by_cases c4 : (l0.length : Int) > 65536
    · rw [if_pos c4] at H
      have c4b0 : decide (65536 < (l0.length : Int)) = true := decide_eq_true c4
      have c4b1 : decide (65536 < l0.length) = true := decide_eq_true (by omega)
      clear c4
      obtain rfl := Option.some.inj H
      go_enter Try.func4, Try.ntmps4
      go_wp2
      go_ret
      exact ⟨by first | rfl | (simp [errW_none, errW_some] <;> rfl) | (simp [*, errW_none, errW_some] <;> rfl), by repeat (first | (with_reducible first | exact HB.out | apply below_alloc | apply pw_below_drewN | apply below_drew1) | exact HB.out)⟩
    · rw [if_neg c4] at H
      have c4b0 : decide (65536 < (l0.length : Int)) = false := decide_eq_false c4
      have c4b1 : decide (65536 < l0.length) = false := decide_eq_false (by omega)
      clear c4
      replace H := Option.bind_eq_some_iff.mp H
      obtain ⟨t137, A50, H⟩ := H
      replace H : ((some (([] : List Int) : List Int)).bind fun y140 => (if y140.length + l0.length < 140737488355328 then ((some (y140 ++ l0 : List Int)).bind fun y143 => ((spec_Signed.f k a1 0).bind fun t146 => (if y143.length + t146.length < 140737488355328 then ((laws_sameBytes.f t137 (y143 ++ t146)).bind fun t152 => (some t152)) else (none)))) else (none))) = some r := H
      have A5 := Aside0.mk A50
      clear A50
      obtain ⟨y140, hy140⟩ : ∃ y_ : List Int, y_ = (([] : List Int)) := ⟨_, rfl⟩
      replace H : (if y140.length + l0.length < 140737488355328 then ((some (y140 ++ l0 : List Int)).bind fun y143 => ((spec_Signed.f k a1 0).bind fun t146 => (if y143.length + t146.length < 140737488355328 then ((laws_sameBytes.f t137 (y143 ++ t146)).bind fun t152 => (some t152)) else (none)))) else (none)) = some r := by first | (rw [hy140]; with_reducible exact H) | (have H2_ := (Option.bind_some _ _).symm.trans H; rw [hy140]; with_reducible exact H2_) | (have H2_ := (Option.bind_some _ _).symm.trans H; with_reducible exact H2_) | with_reducible exact H | (rw [hy140]; exact H) | exact H
      have Ny140 := Aside0.mk hy140
      clear hy140
      by_cases c6 : y140.length + l0.length < 140737488355328
      · rw [if_pos c6] at H
        have LMc6 := Aside0.mk c6
        clear c6
        obtain ⟨y143, hy143⟩ : ∃ y_ : List Int, y_ = (y140 ++ l0) := ⟨_, rfl⟩
        replace H : ((spec_Signed.f k a1 0).bind fun t146 => (if y143.length + t146.length < 140737488355328 then ((laws_sameBytes.f t137 (y143 ++ t146)).bind fun t152 => (some t152)) else (none))) = some r := by first | (rw [hy143]; with_reducible exact H) | (have H2_ := (Option.bind_some _ _).symm.trans H; rw [hy143]; with_reducible exact H2_) | (have H2_ := (Option.bind_some _ _).symm.trans H; with_reducible exact H2_) | with_reducible exact H | (rw [hy143]; exact H) | exact H
        have Ny143 := Aside0.mk hy143
        clear hy143
        replace H := Option.bind_eq_some_iff.mp H
        obtain ⟨t146, A70, H⟩ := H
        replace H : (if y143.length + t146.length < 140737488355328 then ((laws_sameBytes.f t137 (y143 ++ t146)).bind fun t152 => (some t152)) else (none)) = some r := H
        have A7 := Aside0.mk A70
        clear A70
        by_cases c8 : y143.length + t146.length < 140737488355328
        · rw [if_pos c8] at H
          have LMc8 := Aside0.mk c8
          clear c8
          obtain ⟨y149, hy149⟩ : ∃ y_ : List Int, y_ = (y143 ++ t146) := ⟨_, rfl⟩
          replace H : ((laws_sameBytes.f t137 y149).bind fun t152 => (some t152)) = some r := by first | (rw [hy149]; with_reducible exact H) | (have H2_ := (Option.bind_some _ _).symm.trans H; rw [hy149]; with_reducible exact H2_) | (have H2_ := (Option.bind_some _ _).symm.trans H; with_reducible exact H2_) | with_reducible exact H | (rw [hy149]; exact H) | exact H
          have Ny149 := Aside0.mk hy149
          clear hy149
          replace H := Option.bind_eq_some_iff.mp H
          obtain ⟨t152, A90, H⟩ := H
          replace H : (some t152) = some r := H
          have A9 := Aside0.mk A90
          clear A90
          obtain rfl := Option.some.inj H
          go_enter Try.func4, Try.ntmps4
          go_wp2_with (first | ((with_reducible refine gate_callee (f := 17) rfl ?_); refine goesL_ (some 13) rfl rfl Try.func17 (by kernel_rfl) rfl #[.slice A0 l0.length c0, .int .i64 a1] rfl (by (try simp only [List.map_toArray, List.map_cons, List.map_nil]); first | done | rfl | (simp only [List.length_drop, List.length_take]; rfl)) ?_; (with_reducible refine (impl_AppendSigned.calls k _ _ l0 a1 t137 _ ?side1 ?side2 A5.out).mono ?_); (case side1 => repeat (first | exact HR0.out | (with_reducible refine Kd.C_alloc ?_ _) | (with_reducible refine Kd.C_drewN ?_ _) | (with_reducible refine Kd.C_drew ?_))); (case side2 => exact HC0.out); rintro e w10 ⟨v138, rfl, ho0, hb⟩; refine ⟨_, rfl, ?_⟩; have n0_ := Aside0.mk (Kd.R_lower ho0 (below_size (by repeat (first | (with_reducible first | exact HB.out | apply below_alloc | apply pw_below_drewN | apply below_drew1) | exact HB.out)))); have n1_ := Aside0.mk (below_step (by repeat (first | (with_reducible first | exact HB.out | apply below_alloc | apply pw_below_drewN | apply below_drew1) | exact HB.out)) hb); clear HB; have HO139 := n0_; have HB := n1_; clear n0_ n1_; (try clear hb); (try clear hb2); (try clear hk); (try clear hi); (try clear ho0)) | ((with_reducible refine gate_dst (N := 14) rfl ?_); refine Kd.R_lit (Kd.int .u8) _ 5 ?hg (N := 14) ?hd (xs := ([] : List Int)) (inner := []) (ok := fun _ => True) (okp := fun _ => True) ?hr ?hp (fun _ hk => hk) trivial (Below.refl _ _) (Nat.le_refl _) (by simp) ?_; (case hd => rfl); (case hg => rfl); (case hr => first | (go_simp; done) | (go_simp; rfl)); (case hp => exact (Reps.none _ _)); intro v141 w11 ho12 hb hg_ hnew_; clear hg_ hnew_; (first | rw [← Ny140.out] at ho12 | (simp only [Int.reduceToNat] at ho12; rw [← Ny140.out] at ho12)); have n0_ := Aside0.mk (Kd.R_elder' (by (with_reducible repeat (first | apply Kd.R_alloc | apply Kd.R_drewN | apply Kd.R_drew)); exact HO139.out) (Kd.R_base ho12) hb); have n1_ := Aside0.mk (Kd.R_lower (Kd.R_new' ho12 (Kd.R_lt (by (with_reducible repeat (first | apply Kd.R_alloc | apply Kd.R_drewN | apply Kd.R_drew)); exact HO139.out))) (below_size (by repeat (first | (with_reducible first | exact HB.out | apply below_alloc | apply pw_below_drewN | apply below_drew1) | exact HB.out)))); have n2_ := Aside0.mk (below_step (by repeat (first | (with_reducible first | exact HB.out | apply below_alloc | apply pw_below_drewN | apply below_drew1) | exact HB.out)) hb); clear HO139; clear HB; have HO139 := n0_; have HO142 := n1_; have HB := n2_; clear n0_ n1_ n2_; clear hb ho12) | ((with_reducible refine gate_builtin (b := .append) (xs := #[.tmp 14, .tmp 15]) rfl ?_); at_builtin; refine Kd.R_append_rows (Kd.int .u8) (w0 := w) w.heap.size rfl (.tmp 14) (.tmp 15) 22 5 (.int .u8 0) 1 rfl Try.underlying22 info5 rfl (by decide) (by omega) v141 y140 l0 _ _ _ (fun k_ => some k_ ≠ (v138 : Value).ownBlock) (fun _ => False) rfl rfl ?aO ?aR (fun _ _ h => h) (fun _ h => h.elim) ?aF ?aB ?aS ?aL ?_; (case aR => repeat (first | exact (Kd.C_below HR0.out HB.out) | (with_reducible refine Kd.C_alloc ?_ _) | (with_reducible refine Kd.C_drewN ?_ _) | (with_reducible refine Kd.C_drew ?_))); (case aB => exact (by repeat (first | (with_reducible first | exact HB.out | apply below_alloc | apply pw_below_drewN | apply below_drew1) | exact HB.out))); (case aF => exact (fun k_ hk => Kd.fresh' (Kd.R_lt (by (with_reducible repeat (first | apply Kd.R_alloc | apply Kd.R_drewN | apply Kd.R_drew)); exact HO139.out)) k_ hk)); (case aO => exact (by (with_reducible repeat (first | apply Kd.R_alloc | apply Kd.R_drewN | apply Kd.R_drew)); exact Kd.R_mono HO142.out (fun _ hk => hk.2))); (case aS => exact (below_size (by repeat (first | (with_reducible first | exact HB.out | apply below_alloc | apply pw_below_drewN | apply below_drew1) | exact HB.out)))); (case aL => have := LMc6.out; omega); intro v144 w13 ho hb hg hat; rw [← Ny143.out] at ho; have n0_ := Aside0.mk (Kd.R_after (ok := (fun _ => True)) (by (with_reducible repeat (first | apply Kd.R_alloc | apply Kd.R_drewN | apply Kd.R_drew)); exact HO139.out) hg hat); have n1_ := Aside0.mk (hb); have n2_ := Aside0.mk (ho); clear HO139; clear HB; clear HO142; have HO139 := n0_; have HB := n1_; have HO145 := n2_; clear n0_ n1_ n2_; clear ho hb hg hat) | ((with_reducible refine gate_callee (f := 18) rfl ?_); refine goesL_ (some 18) rfl rfl Try.func18 (by kernel_rfl) rfl #[.int .i64 a1, .int .i64 0] rfl (by (try simp only [List.map_toArray, List.map_cons, List.map_nil]); first | done | rfl | (simp only [List.length_drop, List.length_take]; rfl)) ?_; (with_reducible refine (spec_Signed.calls k a1 0 t146 _ A7.out).mono ?_); rintro e w14 ⟨v147, rfl, ho0, hb⟩; refine ⟨_, rfl, ?_⟩; have n0_ := Aside0.mk (Kd.R_elder' (by (with_reducible repeat (first | apply Kd.R_alloc | apply Kd.R_drewN | apply Kd.R_drew)); exact HO139.out) (Kd.R_base ho0) hb); have n1_ := Aside0.mk (Kd.R_elder' (by (with_reducible repeat (first | apply Kd.R_alloc | apply Kd.R_drewN | apply Kd.R_drew)); exact HO145.out) (Kd.R_base ho0) hb); have n2_ := Aside0.mk (Kd.R_lower (Kd.R_new' (Kd.R_new' ho0 (Kd.R_lt (by (with_reducible repeat (first | apply Kd.R_alloc | apply Kd.R_drewN | apply Kd.R_drew)); exact HO139.out))) (Kd.R_lt (by (with_reducible repeat (first | apply Kd.R_alloc | apply Kd.R_drewN | apply Kd.R_drew)); exact HO145.out))) (below_size (by repeat (first | (with_reducible first | exact HB.out | apply below_alloc | apply pw_below_drewN | apply below_drew1) | exact HB.out)))); have n3_ := Aside0.mk (below_step (by repeat (first | (with_reducible first | exact HB.out | apply below_alloc | apply pw_below_drewN | apply below_drew1) | exact HB.out)) hb); clear HO139; clear HO145; clear HB; have HO139 := n0_; have HO145 := n1_; have HO148 := n2_; have HB := n3_; clear n0_ n1_ n2_ n3_; (try clear hb); (try clear hb2); (try clear hk); (try clear hi); (try clear ho0); obtain ⟨Ao16, co16, eo16⟩ := Kd.R_slice HO148.out; subst eo16) | ((with_reducible refine gate_builtin (b := .append) (xs := #[.tmp 16, .tmp 18]) rfl ?_); at_builtin; refine Kd.R_append_rows (Kd.int .u8) (w0 := w) w.heap.size rfl (.tmp 16) (.tmp 18) 22 5 (.int .u8 0) 1 rfl Try.underlying22 info5 rfl (by decide) (by omega) v144 y143 t146 _ _ _ (fun k_ => some k_ ≠ (v138 : Value).ownBlock ∧ some k_ ≠ (.slice Ao16 t146.length co16 : Value).ownBlock) (fun _ => False) rfl rfl ?aO ?aR (fun _ _ h => h) (fun _ h => h.elim) ?aF ?aB ?aS ?aL ?_; (case aR => repeat (first | exact (Kd.R_reads' HO148.out).2.2 | (with_reducible refine Kd.C_alloc ?_ _) | (with_reducible refine Kd.C_drewN ?_ _) | (with_reducible refine Kd.C_drew ?_))); (case aB => exact (by repeat (first | (with_reducible first | exact HB.out | apply below_alloc | apply pw_below_drewN | apply below_drew1) | exact HB.out))); (case aF => exact (fun k_ hk => ⟨Kd.fresh' (Kd.R_lt (by (with_reducible repeat (first | apply Kd.R_alloc | apply Kd.R_drewN | apply Kd.R_drew)); exact HO139.out)) k_ hk, Kd.fresh' (Kd.R_lt (by (with_reducible repeat (first | apply Kd.R_alloc | apply Kd.R_drewN | apply Kd.R_drew)); exact HO148.out)) k_ hk⟩)); (case aO => exact (by (with_reducible repeat (first | apply Kd.R_alloc | apply Kd.R_drewN | apply Kd.R_drew)); exact HO145.out)); (case aS => exact (below_size (by repeat (first | (with_reducible first | exact HB.out | apply below_alloc | apply pw_below_drewN | apply below_drew1) | exact HB.out)))); (case aL => have := LMc8.out; omega); intro v150 w15 ho hb hg hat; rw [← Ny149.out] at ho; have n0_ := Aside0.mk (Kd.R_after (ok := (fun k_ => some k_ ≠ (.slice Ao16 t146.length co16 : Value).ownBlock)) (by (with_reducible repeat (first | apply Kd.R_alloc | apply Kd.R_drewN | apply Kd.R_drew)); exact Kd.R_mono HO139.out (fun _ hk => ⟨hk.2, hk.1.2⟩)) hg hat); have n1_ := Aside0.mk (Kd.R_after (ok := (fun k_ => some k_ ≠ (v138 : Value).ownBlock)) (by (with_reducible repeat (first | apply Kd.R_alloc | apply Kd.R_drewN | apply Kd.R_drew)); exact Kd.R_mono HO148.out (fun _ hk => ⟨hk.1.2, hk.2⟩)) hg hat); have n2_ := Aside0.mk (hb); have n3_ := Aside0.mk (ho); clear HO139; clear HO148; clear HB; clear HO145; have HO139 := n0_; have HO148 := n1_; have HB := n2_; have HO151 := n3_; clear n0_ n1_ n2_ n3_; clear ho hb hg hat; obtain ⟨Ao17, co17, eo17⟩ := Kd.R_slice HO139.out; subst eo17; obtain ⟨Ao18, co18, eo18⟩ := Kd.R_slice HO151.out; subst eo18) | ((with_reducible refine gate_callee (f := 14) rfl ?_); refine goesL_ (some 20) rfl rfl Try.func14 (by kernel_rfl) rfl #[.slice Ao17 t137.length co17, .slice Ao18 y149.length co18] rfl (by (try simp only [List.map_toArray, List.map_cons, List.map_nil]); first | done | rfl | (simp only [List.length_drop, List.length_take]; rfl)) ?_; (with_reducible refine (laws_sameBytes.calls _ _ t137 _ _ y149 t152 _ ?side1 ?side2 ?side3 ?side4 A9.out).mono ?_); (case side1 => repeat (first | exact (Kd.R_reads' HO139.out).2.2 | (with_reducible refine Kd.C_alloc ?_ _) | (with_reducible refine Kd.C_drewN ?_ _) | (with_reducible refine Kd.C_drew ?_))); (case side2 => exact (Kd.R_reads' HO139.out).2.1); (case side3 => repeat (first | exact (Kd.R_reads' HO151.out).2.2 | (with_reducible refine Kd.C_alloc ?_ _) | (with_reducible refine Kd.C_drewN ?_ _) | (with_reducible refine Kd.C_drew ?_))); (case side4 => exact (Kd.R_reads' HO151.out).2.1); rintro e w' ⟨rfl, ⟨nd, rfl⟩⟩; refine ⟨_, rfl, ?_⟩))
          go_ret
          exact ⟨by first | rfl | (simp [errW_none, errW_some] <;> rfl) | (simp [*, errW_none, errW_some] <;> rfl), by repeat (first | (with_reducible first | exact HB.out | apply below_alloc | apply pw_below_drewN | apply below_drew1) | exact HB.out)⟩
        · rw [if_neg c8] at H
          exact absurd H (by simp)
      · rw [if_neg c6] at H
        exact absurd H (by simp)

/-- THE ONE PURE STATEMENT of laws_FnAppendSignedIs: yours. -/
def laws_FnAppendSignedIs.Pure : Prop := ∀ (l0 : List Int) (a1 : Int), l0.length ≤ maxLen → l0.length * 1 ≤ 140737488351232 → (∀ x ∈ l0, (Lit.int .u8 x).wf = true) → (Lit.int .i64 a1).wf = true → ∃ k, laws_FnAppendSignedIs.f k l0 a1 = some true
theorem laws_FnAppendSignedIs.walk (P : laws_FnAppendSignedIs.Pure) (a0 : Option Addr) (len0 cap0 : Nat) (z0 : List Int) (a1 : Int) (w : World) (w0 : (a0 = none ∧ len0 = 0 ∧ cap0 = 0 ∧ z0 = []) ∨ ∃ x, a0 = some x ∧ len0 ≤ cap0 ∧ cap0 ≤ maxLen ∧ z0.length = cap0 ∧ (∀ i, i < z0.length → w.cell? (x.add i) = some (.int .u8 (z0.getD i 0))) ∧ ∀ n ∈ z0, (Lit.int .u8 n).wf = true) (y0 : len0 * 1 ≤ 140737488351232) (w1 : (Lit.int .i64 a1).wf = true) :
    Calls Try.prog 4 #[.slice a0 len0 cap0, .int .i64 a1] w fun e w' => e = .returned (.bool true) ∧ Below w.heap.size w w' := by
  obtain ⟨l0, rfl, hr0, hm0, hw0, hc0⟩ := ReadsInt.ofRowC w0
  obtain ⟨k, h⟩ := P l0 a1 hm0 y0 hw0 w1
  refine (laws_FnAppendSignedIs.calls k _ _ l0 a1 true w (Kd.C_of_reads (d := (0 : Int)) (h1 := fun _ => rfl) hr0) hc0 h).mono ?_
  rintro e w' ⟨rfl, hd⟩
  exact ⟨rfl, hd⟩

end Go.Proofs.Ytkgkdppjopilmaa.PFnAppendSignedIs
