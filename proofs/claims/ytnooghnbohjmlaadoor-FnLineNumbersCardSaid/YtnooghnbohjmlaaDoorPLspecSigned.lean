-- Printed by a program of this session (mkprint.py over the kit's print.py)
import Derived.Test.YtnooghnbohjmlaaDoorMa
import Derived.Test.YtnooghnbohjmlaaDoorMc
namespace Go.Proofs.YtnooghnbohjmlaaDoor.PPl
open Go.RowKit Go.Proofs.YtnooghnbohjmlaaDoorW.PrintWords Go.Proofs.YtnooghnbohjmlaaDoorW.PrintLast Go.Proofs.YtnooghnbohjmlaaDoorW.PrintMore
attribute [local go_sem] max2_int max_two   -- for this text's walks alone
set_option linter.unusedVariables false
set_option linter.unusedSimpArgs false

/-! ### spec_Signed: function 12 -/
mutual
def spec_Signed.j1 : Nat → Int → Int → List Int → Option (List Int)
  | 0, _, _, _ => none
  | k + 1, x0, x1, x5 => spec_Signed.l1 k x0 x1 x5
def spec_Signed.l1 : Nat → Int → Int → List Int → Option (List Int)
  | 0, _, _, _ => none
  | k + 1, x0, x1, x5 => if x1 > 0 then (if x5.length < 140737488355328 then (spec_Signed.l1 k x0 (wrap64 (x1 - 1)) (x5 ++ [(Go.bits .and .i64 x0 127) % 256])) else (none)) else ((spec_carried.f k x5).bind fun t235 => (some t235))
def spec_Signed.l0 : Nat → Int → Int → List Int → Int → Option (List Int)
  | 0, _, _, _, _ => none
  | k + 1, x0, x1, x5, x6 => if x0 = 0 then (if ((x0 == (-1)) != (decide (x6 ≥ 64))) = true then (if x5.length < 140737488355328 then ((some (x5 ++ [(Go.bits .and .i64 x0 127) % 256] : List Int)).bind fun y220 => (if 0 ≤ (wrap64 ((y220.length : Int) - 1)) then (if (wrap64 ((y220.length : Int) - 1)) < (y220.length : Int) then (spec_Signed.l0 k (x0 / 128) x1 y220 (rd y220 (wrap64 ((y220.length : Int) - 1)))) else (none)) else (none))) else (none)) else (spec_Signed.j1 k x0 x1 x5)) else (if x0 = (-1) then (if ((x0 == (-1)) != (decide (x6 ≥ 64))) = true then (if x5.length < 140737488355328 then ((some (x5 ++ [(Go.bits .and .i64 x0 127) % 256] : List Int)).bind fun y224 => (if 0 ≤ (wrap64 ((y224.length : Int) - 1)) then (if (wrap64 ((y224.length : Int) - 1)) < (y224.length : Int) then (spec_Signed.l0 k (x0 / 128) x1 y224 (rd y224 (wrap64 ((y224.length : Int) - 1)))) else (none)) else (none))) else (none)) else (spec_Signed.j1 k x0 x1 x5)) else (if x5.length < 140737488355328 then ((some (x5 ++ [(Go.bits .and .i64 x0 127) % 256] : List Int)).bind fun y228 => (if 0 ≤ (wrap64 ((y228.length : Int) - 1)) then (if (wrap64 ((y228.length : Int) - 1)) < (y228.length : Int) then (spec_Signed.l0 k (x0 / 128) x1 y228 (rd y228 (wrap64 ((y228.length : Int) - 1)))) else (none)) else (none))) else (none)))
end
def spec_Signed.f (k : Nat) (a0 : Int) (a1 : Int) : Option (List Int) := (some (([(Go.bits .and .i64 a0 127) % 256] : List Int) : List Int)).bind fun y216 => (if 0 < (y216.length : Int) then (spec_Signed.l0 k (a0 / 128) a1 y216 (rd y216 0)) else (none))
theorem spec_Signed.mono_l : ∀ k, (∀ y0 y1 y2, LeO (spec_Signed.j1 k y0 y1 y2) (spec_Signed.j1 (k + 1) y0 y1 y2)) ∧ (∀ y0 y1 y2, LeO (spec_Signed.l1 k y0 y1 y2) (spec_Signed.l1 (k + 1) y0 y1 y2)) ∧ (∀ y0 y1 y2 y3, LeO (spec_Signed.l0 k y0 y1 y2 y3) (spec_Signed.l0 (k + 1) y0 y1 y2 y3))
  | 0 => ⟨fun _ _ _ r h => by simp [spec_Signed.j1] at h, fun _ _ _ r h => by simp [spec_Signed.l1] at h, fun _ _ _ _ r h => by simp [spec_Signed.l0] at h⟩
  | k + 1 => by
    obtain ⟨ih0, ih1, ih2⟩ := spec_Signed.mono_l k
    refine ⟨?_, ?_, ?_⟩
    · intro y0 y1 y2
      unfold spec_Signed.j1
      repeat' first
      | (with_reducible exact ih0 _ _ _)
      | (with_reducible exact ih1 _ _ _)
      | (with_reducible exact ih2 _ _ _ _)
      | (with_reducible exact spec_carried.mono _ _)
      | (with_reducible exact LeO.refl _)
      | (with_reducible exact LeO.none _)
      | (with_reducible refine LeO.ite ?_ ?_)
      | (with_reducible refine LeO.bind ?_ (fun _ => ?_))
      | exact ih0 _ _ _
      | exact ih1 _ _ _
      | exact ih2 _ _ _ _
      | exact spec_carried.mono _ _
      | exact LeO.none _
      | refine LeO.ite ?_ ?_
      | refine LeO.bind ?_ (fun _ => ?_)
    · intro y0 y1 y2
      unfold spec_Signed.l1
      repeat' first
      | (with_reducible exact ih0 _ _ _)
      | (with_reducible exact ih1 _ _ _)
      | (with_reducible exact ih2 _ _ _ _)
      | (with_reducible exact spec_carried.mono _ _)
      | (with_reducible exact LeO.refl _)
      | (with_reducible exact LeO.none _)
      | (with_reducible refine LeO.ite ?_ ?_)
      | (with_reducible refine LeO.bind ?_ (fun _ => ?_))
      | exact ih0 _ _ _
      | exact ih1 _ _ _
      | exact ih2 _ _ _ _
      | exact spec_carried.mono _ _
      | exact LeO.none _
      | refine LeO.ite ?_ ?_
      | refine LeO.bind ?_ (fun _ => ?_)
    · intro y0 y1 y2 y3
      unfold spec_Signed.l0
      repeat' first
      | (with_reducible exact ih0 _ _ _)
      | (with_reducible exact ih1 _ _ _)
      | (with_reducible exact ih2 _ _ _ _)
      | (with_reducible exact spec_carried.mono _ _)
      | (with_reducible exact LeO.refl _)
      | (with_reducible exact LeO.none _)
      | (with_reducible refine LeO.ite ?_ ?_)
      | (with_reducible refine LeO.bind ?_ (fun _ => ?_))
      | exact ih0 _ _ _
      | exact ih1 _ _ _
      | exact ih2 _ _ _ _
      | exact spec_carried.mono _ _
      | exact LeO.none _
      | refine LeO.ite ?_ ?_
      | refine LeO.bind ?_ (fun _ => ?_)
theorem spec_Signed.mono : ∀ a0 a1 k, LeO (spec_Signed.f k a0 a1) (spec_Signed.f (k + 1) a0 a1) := by
  intro a0 a1 k
  obtain ⟨ih0, ih1, ih2⟩ := spec_Signed.mono_l k
  unfold spec_Signed.f
  repeat' first
      | (with_reducible exact ih0 _ _ _)
      | (with_reducible exact ih1 _ _ _)
      | (with_reducible exact ih2 _ _ _ _)
      | (with_reducible exact spec_carried.mono _ _)
      | (with_reducible exact LeO.refl _)
      | (with_reducible exact LeO.none _)
      | (with_reducible refine LeO.ite ?_ ?_)
      | (with_reducible refine LeO.bind ?_ (fun _ => ?_))
      | exact ih0 _ _ _
      | exact ih1 _ _ _
      | exact ih2 _ _ _ _
      | exact spec_carried.mono _ _
      | exact LeO.none _
      | refine LeO.ite ?_ ?_
      | refine LeO.bind ?_ (fun _ => ?_)
set_option maxHeartbeats 8000000 in
set_option maxRecDepth 100000 in
theorem spec_Signed.calls (k : Nat) (a0 : Int) (a1 : Int) (r : List Int) (w : World) (h : spec_Signed.f k a0 a1 = some r) :
    Calls Tryd.prog 12 #[.int .i64 a0, .int .i64 a1] w fun e w' => ∃ v0_ : Value, e = .returned (v0_) ∧ Kd.R (Kd.int .u8) 5 w' w.heap.size (fun _ => True) v0_ r ∧ Below w.heap.size w w' := by
  have HB := Aside0.mk (Below.refl w.heap.size w)
  have H : ((some (([(Go.bits .and .i64 a0 127) % 256] : List Int) : List Int)).bind fun y216 => (if 0 < (y216.length : Int) then (spec_Signed.l0 k (a0 / 128) a1 y216 (rd y216 0)) else (none))) = some r := h
  clear h
  obtain ⟨y216, hy216⟩ : ∃ y_ : List Int, y_ = (([(Go.bits .and .i64 a0 127) % 256] : List Int)) := ⟨_, rfl⟩
  replace H : (if 0 < (y216.length : Int) then (spec_Signed.l0 k (a0 / 128) a1 y216 (rd y216 0)) else (none)) = some r := by first | (rw [hy216]; with_reducible exact H) | (have H2_ := (Option.bind_some _ _).symm.trans H; rw [hy216]; with_reducible exact H2_) | (have H2_ := (Option.bind_some _ _).symm.trans H; with_reducible exact H2_) | with_reducible exact H | (rw [hy216]; exact H) | exact H
  have Ny216 := Aside0.mk hy216
  clear hy216
  by_cases c3 : 0 < (y216.length : Int)
  · rw [if_pos c3] at H
    have c3b0 : decide (0 < (y216.length : Int)) = true := decide_eq_true c3
    have c3b1 : decide (0 < y216.length) = true := decide_eq_true (by omega)
    clear c3
    have HC4 := Aside0.mk H
    clear H
    go_enter Tryd.func12, Tryd.ntmps12
    go_upto_block 0 with (first | ((with_reducible refine gate_dst (N := 10) rfl ?_); refine Kd.R_lit (Kd.int .u8) _ 5 ?hg (N := 10) ?hd (xs := ([(Go.bits .and .i64 a0 127) % 256] : List Int)) (inner := [.int .u8 ((Go.bits .and .i64 a0 127) % 256)]) (ok := fun _ => True) (okp := fun _ => True) ?hr ?hp (fun _ hk => hk) trivial (Below.refl _ _) (Nat.le_refl _) (by simp) ?_; (case hd => rfl); (case hg => rfl); (case hr => first | (go_simp; done) | (go_simp; rfl)); (case hp => exact (Reps.one (show Kd.M (Kd.int .u8) _ _ _ ((Go.bits .and .i64 a0 127) % 256) [.int .u8 ((Go.bits .and .i64 a0 127) % 256)] from rfl) (Reps.none _ _))); intro v217 w5 ho6 hb hg_ hnew_; clear hg_ hnew_; (first | rw [← Ny216.out] at ho6 | (simp only [Int.reduceToNat] at ho6; rw [← Ny216.out] at ho6)); have n0_ := Aside0.mk (Kd.R_lower ho6 (below_size qB)); have n1_ := Aside0.mk (below_step qB hb); clear HB; have HO218 := n0_; have HB := n1_; clear n0_ n1_; clear hb ho6; obtain ⟨Ao7, co7, eo7⟩ := Kd.R_slice HO218.out; subst eo7; have p219 : 0 ≤ (0 : Int) := (by omega); have q219 : 0 < (y216.length : Int) := of_decide_eq_true qA; obtain ⟨ad219, e219, hx219_0⟩ := Kd.at_int (Kd.R_reads' HO218.out).2.2 0 p219 q219; cases e219; have qi219 : (0 < y216.length) = True := eq_true (by omega); (try rw [show ((0 : Int)).toNat = 0 from rfl] at hx219_0); (try rw [Addr.add_zero'] at hx219_0); replace p219 := eq_true p219; replace q219 := eq_true q219))
    (try simp only [Act.put, List.setIfInBounds_toArray, List.set_cons_zero, List.set_cons_succ])
    go_cut [0, 5] (fun v0 v5 wc => ∃ (kq : Nat) (x0_3 : Int) (x5_3 : List Int), v0 = .int .i64 x0_3 ∧ Aside0 (spec_Signed.j1 kq x0_3 a1 x5_3 = some r) ∧ Aside0 (kq ≤ k) ∧ Aside0 (Kd.R (Kd.int .u8) 5 wc w.heap.size (fun _ => True) v5 x5_3) ∧ Aside0 (Below w.heap.size w wc))
    case first =>
      have H := HC4.out
      clear HC4
      have H' := Aside0.mk H
      clear H
      go_wp2
      go_loopg [0, 5, 6] k (fun kq v0 v5 v6 w' => ∃ (x0_1 : Int) (x5_1 : List Int) (x6_1 : Int), v0 = .int .i64 x0_1 ∧ v6 = .int .u8 x6_1 ∧ Aside0 (spec_Signed.l0 kq x0_1 a1 x5_1 x6_1 = some r) ∧ Aside0 (kq ≤ k) ∧ Aside0 (Kd.R (Kd.int .u8) 5 w' w.heap.size (fun _ => True) v5 x5_1) ∧ Aside0 (Below w.heap.size w w'))
      case atStart => exact ⟨(a0 / 128), (y216), (rd y216 0), (by first | rfl | (simp; done) | (simp [*]; done)), (by first | rfl | (simp; done) | (simp [*]; done)), H', ⟨Nat.le_refl _⟩, ⟨by (with_reducible repeat (first | apply Kd.R_alloc | apply Kd.R_drewN | apply Kd.R_drew)); exact HO218.out⟩, ⟨by repeat (first | (with_reducible first | exact HB.out | apply below_alloc | apply pw_below_drewN | apply below_drew1) | exact HB.out)⟩⟩
      case round =>
        clear H'
        try clear c1
        try clear p2
        try clear q2
        try clear hx2
        try clear qi2
        try clear c3
        try clear c3b0
        try clear c3b1
        try clear hx219_0
        try clear p219
        try clear q219
        obtain ⟨x0_1, x5_1, x6_1, rfl, rfl, HA, HK1, HO_5, HB⟩ := hrel
        cases gk with
        | zero => exact absurd HA.out (by simp [spec_Signed.l0])
        | succ k1 =>
          have H := HA.out
          clear HA
          simp only [spec_Signed.l0] at H
          by_cases c8 : x0_1 = 0
          · rw [if_pos c8] at H
            have c8b0 : (x0_1 == 0) = true := beq_iff_eq.mpr c8
            have c8b1 : (x0_1 != 0) = false := bne_eq_false_iff_eq.mpr c8
            clear c8
            (first | rw [c8b0] | (simp only [i64_w, i32_w]; rw [c8b0]) | skip)
            by_cases c9 : ((x0_1 == (-1)) != (decide (x6_1 ≥ 64))) = true
            · rw [if_pos c9] at H
              have c9b0 : ((x0_1 == (-1)) != (decide (x6_1 ≥ 64))) = true := c9
              (try (have c9b1 : decide ((x0_1 == (-1)) = (decide (x6_1 ≥ 64))) = false := by simpa using c9))
              (try (have c9b2 : ((x0_1 == (-1)) == (decide (x6_1 ≥ 64))) = false := by simpa using c9))
              (try (have c9b3 : ¬ ((x0_1 == (-1)) = (decide (x6_1 ≥ 64))) := by simpa using c9))
              clear c9
              by_cases c10 : x5_1.length < 140737488355328
              · rw [if_pos c10] at H
                have LMc10 := Aside0.mk c10
                clear c10
                obtain ⟨y220, hy220⟩ : ∃ y_ : List Int, y_ = (x5_1 ++ [(Go.bits .and .i64 x0_1 127) % 256]) := ⟨_, rfl⟩
                replace H : (if 0 ≤ (wrap64 ((y220.length : Int) - 1)) then (if (wrap64 ((y220.length : Int) - 1)) < (y220.length : Int) then (spec_Signed.l0 k1 (x0_1 / 128) a1 y220 (rd y220 (wrap64 ((y220.length : Int) - 1)))) else (none)) else (none)) = some r := by first | (rw [hy220]; with_reducible exact H) | (have H2_ := (Option.bind_some _ _).symm.trans H; rw [hy220]; with_reducible exact H2_) | (have H2_ := (Option.bind_some _ _).symm.trans H; with_reducible exact H2_) | with_reducible exact H | (rw [hy220]; exact H) | exact H
                have Ny220 := Aside0.mk hy220
                clear hy220
                obtain ⟨ji11, hji11⟩ : ∃ j_ : Int, (wrap64 ((y220.length : Int) - 1)) = j_ := ⟨_, rfl⟩
                replace H : (if 0 ≤ (ji11) then (if (ji11) < (y220.length : Int) then (spec_Signed.l0 k1 (x0_1 / 128) a1 y220 (rd y220 (ji11))) else (none)) else (none)) = some r := by first | (rw [hji11] at H; exact H) | (simp only [hji11] at H ⊢; exact H)
                have hji11w : (IntKind.i64.wrap ((y220.length : Int) - 1)) = ji11 := (i64_w _).trans hji11
                by_cases c12 : 0 ≤ (ji11)
                · rw [if_pos c12] at H
                  have c12b0 : decide (0 ≤ (ji11)) = true := decide_eq_true c12
                  clear c12
                  by_cases c13 : (ji11) < (y220.length : Int)
                  · rw [if_pos c13] at H
                    have c13b0 : decide ((ji11) < (y220.length : Int)) = true := decide_eq_true c13
                    clear c13
                    have H' := Aside0.mk H
                    clear H
                    go_wp2_with (first | ((with_reducible refine gate_builtin (b := .append) (xs := #[.tmp 35, .tmp 39]) rfl ?_); at_builtin; refine Kd.R_append (Kd.int .u8) (w0 := w) w.heap.size rfl (.tmp 35) (.tmp 39) 23 5 (.int .u8 0) 1 rfl Tryd.underlying23 info5 rfl (by decide) (by omega) u5 x5_1 ((Go.bits .and .i64 x0_1 127) % 256) [.int .u8 ((Go.bits .and .i64 x0_1 127) % 256)] (fun _ => True) (fun _ => False) rfl rfl ?aP (fun _ hk => hk.elim) ?aF ?aO ?aB ?aS ?aL ?_; (case aP => exact rfl); (case aB => exact qB); (case aF => exact (fun _ _ => trivial)); (case aO => exact (qR HO_5.out)); (case aS => exact (below_size qB)); (case aL => have := LMc10.out; omega); intro v221 w14 ho hb hg hat; rw [← Ny220.out] at ho; have n0_ := Aside0.mk (hb); have n1_ := Aside0.mk (ho); clear HB; clear HO_5; have HB := n0_; have HO222 := n1_; clear n0_ n1_; clear ho hb hg hat; obtain ⟨Ao15, co15, eo15⟩ := Kd.R_slice HO222.out; subst eo15; have p223 : 0 ≤ ((ji11) : Int) := of_decide_eq_true qA; have q223 : (ji11) < (y220.length : Int) := of_decide_eq_true qA; obtain ⟨ad223, e223, hx223_0⟩ := Kd.at_int (Kd.R_reads' HO222.out).2.2 (ji11) p223 q223; cases e223; replace p223 := eq_true p223; replace q223 := eq_true q223))
                    go_roundg k1
                    case measure => have := HK1.out; omega
                    case rel => exact ⟨(x0_1 / 128), (y220), (rd y220 (ji11)), (by first | rfl | (simp; done) | (simp [*]; done)), (by first | rfl | (simp; done) | (simp only [← hji11] <;> (first | rfl | simp)) | (simp [*]; done)), H', ⟨by have := HK1.out; omega⟩, ⟨by (with_reducible repeat (first | apply Kd.R_alloc | apply Kd.R_drewN | apply Kd.R_drew)); exact HO222.out⟩, ⟨by repeat (first | (with_reducible first | exact HB.out | apply below_alloc | apply pw_below_drewN | apply below_drew1) | exact HB.out)⟩⟩
                  · rw [if_neg c13] at H
                    exact absurd H (by simp)
                · rw [if_neg c12] at H
                  exact absurd H (by simp)
              · rw [if_neg c10] at H
                exact absurd H (by simp)
            · rw [if_neg c9] at H
              have c9b0 : ((x0_1 == (-1)) != (decide (x6_1 ≥ 64))) = false := by simpa using c9
              (try (have c9b1 : decide ((x0_1 == (-1)) = (decide (x6_1 ≥ 64))) = true := by simpa using c9))
              (try (have c9b2 : ((x0_1 == (-1)) == (decide (x6_1 ≥ 64))) = true := by simpa using c9))
              clear c9
              have H' := Aside0.mk H
              clear H
              go_wp2
              go_meet
              case rel => exact ⟨_, (x0_1), (x5_1), (by first | rfl | (simp; done) | (simp [*]; done)), H', ⟨by have := HK1.out; first | omega | exact Nat.le_refl _⟩, ⟨by (with_reducible repeat (first | apply Kd.R_alloc | apply Kd.R_drewN | apply Kd.R_drew)); exact HO_5.out⟩, ⟨by repeat (first | (with_reducible first | exact HB.out | apply below_alloc | apply pw_below_drewN | apply below_drew1) | exact HB.out)⟩⟩
          · rw [if_neg c8] at H
            have c8b0 : (x0_1 == 0) = false := beq_eq_false_iff_ne.mpr c8
            have c8b1 : (x0_1 != 0) = true := bne_iff_ne.mpr c8
            (first | rw [c8b0] | (simp only [i64_w, i32_w]; rw [c8b0]) | skip)
            by_cases c16 : x0_1 = (-1)
            · rw [if_pos c16] at H
              have c16b0 : (x0_1 == (-1)) = true := beq_iff_eq.mpr c16
              have c16b1 : (x0_1 != (-1)) = false := bne_eq_false_iff_eq.mpr c16
              clear c16
              by_cases c17 : ((x0_1 == (-1)) != (decide (x6_1 ≥ 64))) = true
              · rw [if_pos c17] at H
                have c17b0 : ((x0_1 == (-1)) != (decide (x6_1 ≥ 64))) = true := c17
                (try (have c17ztrue : decide (64 ≤ x6_1) = true := by have z_ := c17b0; rw [c16b0] at z_; simpa using z_))
                (try (have c17zfalse : decide (64 ≤ x6_1) = false := by have z_ := c17b0; rw [c16b0] at z_; simpa using z_))
                (try (have c17ztrue : decide (64 ≤ x6_1) = true := by have z_ := c17b0; rw [c16b0] at z_; simpa using z_))
                (try (have c17zfalse : decide (64 ≤ x6_1) = false := by have z_ := c17b0; rw [c16b0] at z_; simpa using z_))
                (try (have c17b1 : decide ((x0_1 == (-1)) = (decide (x6_1 ≥ 64))) = false := by simpa using c17))
                (try (have c17b2 : ((x0_1 == (-1)) == (decide (x6_1 ≥ 64))) = false := by simpa using c17))
                (try (have c17b3 : ¬ ((x0_1 == (-1)) = (decide (x6_1 ≥ 64))) := by simpa using c17))
                clear c17
                by_cases c18 : x5_1.length < 140737488355328
                · rw [if_pos c18] at H
                  have LMc18 := Aside0.mk c18
                  clear c18
                  obtain ⟨y224, hy224⟩ : ∃ y_ : List Int, y_ = (x5_1 ++ [(Go.bits .and .i64 x0_1 127) % 256]) := ⟨_, rfl⟩
                  replace H : (if 0 ≤ (wrap64 ((y224.length : Int) - 1)) then (if (wrap64 ((y224.length : Int) - 1)) < (y224.length : Int) then (spec_Signed.l0 k1 (x0_1 / 128) a1 y224 (rd y224 (wrap64 ((y224.length : Int) - 1)))) else (none)) else (none)) = some r := by first | (rw [hy224]; with_reducible exact H) | (have H2_ := (Option.bind_some _ _).symm.trans H; rw [hy224]; with_reducible exact H2_) | (have H2_ := (Option.bind_some _ _).symm.trans H; with_reducible exact H2_) | with_reducible exact H | (rw [hy224]; exact H) | exact H
                  have Ny224 := Aside0.mk hy224
                  clear hy224
                  obtain ⟨ji19, hji19⟩ : ∃ j_ : Int, (wrap64 ((y224.length : Int) - 1)) = j_ := ⟨_, rfl⟩
                  replace H : (if 0 ≤ (ji19) then (if (ji19) < (y224.length : Int) then (spec_Signed.l0 k1 (x0_1 / 128) a1 y224 (rd y224 (ji19))) else (none)) else (none)) = some r := by first | (rw [hji19] at H; exact H) | (simp only [hji19] at H ⊢; exact H)
                  have hji19w : (IntKind.i64.wrap ((y224.length : Int) - 1)) = ji19 := (i64_w _).trans hji19
                  by_cases c20 : 0 ≤ (ji19)
                  · rw [if_pos c20] at H
                    have c20b0 : decide (0 ≤ (ji19)) = true := decide_eq_true c20
                    clear c20
                    by_cases c21 : (ji19) < (y224.length : Int)
                    · rw [if_pos c21] at H
                      have c21b0 : decide ((ji19) < (y224.length : Int)) = true := decide_eq_true c21
                      clear c21
                      have H' := Aside0.mk H
                      clear H
                      go_wp2_with (first | ((with_reducible refine gate_builtin (b := .append) (xs := #[.tmp 35, .tmp 39]) rfl ?_); at_builtin; refine Kd.R_append (Kd.int .u8) (w0 := w) w.heap.size rfl (.tmp 35) (.tmp 39) 23 5 (.int .u8 0) 1 rfl Tryd.underlying23 info5 rfl (by decide) (by omega) u5 x5_1 ((Go.bits .and .i64 x0_1 127) % 256) [.int .u8 ((Go.bits .and .i64 x0_1 127) % 256)] (fun _ => True) (fun _ => False) rfl rfl ?aP (fun _ hk => hk.elim) ?aF ?aO ?aB ?aS ?aL ?_; (case aP => exact rfl); (case aB => exact qB); (case aF => exact (fun _ _ => trivial)); (case aO => exact (qR HO_5.out)); (case aS => exact (below_size qB)); (case aL => have := LMc18.out; omega); intro v225 w22 ho hb hg hat; rw [← Ny224.out] at ho; have n0_ := Aside0.mk (hb); have n1_ := Aside0.mk (ho); clear HB; clear HO_5; have HB := n0_; have HO226 := n1_; clear n0_ n1_; clear ho hb hg hat; obtain ⟨Ao23, co23, eo23⟩ := Kd.R_slice HO226.out; subst eo23; have p227 : 0 ≤ ((ji19) : Int) := of_decide_eq_true qA; have q227 : (ji19) < (y224.length : Int) := of_decide_eq_true qA; obtain ⟨ad227, e227, hx227_0⟩ := Kd.at_int (Kd.R_reads' HO226.out).2.2 (ji19) p227 q227; cases e227; replace p227 := eq_true p227; replace q227 := eq_true q227))
                      go_roundg k1
                      case measure => have := HK1.out; omega
                      case rel => exact ⟨(x0_1 / 128), (y224), (rd y224 (ji19)), (by first | rfl | (simp; done) | (simp [*]; done)), (by first | rfl | (simp; done) | (simp only [← hji19] <;> (first | rfl | simp)) | (simp [*]; done)), H', ⟨by have := HK1.out; omega⟩, ⟨by (with_reducible repeat (first | apply Kd.R_alloc | apply Kd.R_drewN | apply Kd.R_drew)); exact HO226.out⟩, ⟨by repeat (first | (with_reducible first | exact HB.out | apply below_alloc | apply pw_below_drewN | apply below_drew1) | exact HB.out)⟩⟩
                    · rw [if_neg c21] at H
                      exact absurd H (by simp)
                  · rw [if_neg c20] at H
                    exact absurd H (by simp)
                · rw [if_neg c18] at H
                  exact absurd H (by simp)
              · rw [if_neg c17] at H
                have c17b0 : ((x0_1 == (-1)) != (decide (x6_1 ≥ 64))) = false := by simpa using c17
                (try (have c17ztrue : decide (64 ≤ x6_1) = true := by have z_ := c17b0; rw [c16b0] at z_; simpa using z_))
                (try (have c17zfalse : decide (64 ≤ x6_1) = false := by have z_ := c17b0; rw [c16b0] at z_; simpa using z_))
                (try (have c17ztrue : decide (64 ≤ x6_1) = true := by have z_ := c17b0; rw [c16b0] at z_; simpa using z_))
                (try (have c17zfalse : decide (64 ≤ x6_1) = false := by have z_ := c17b0; rw [c16b0] at z_; simpa using z_))
                (try (have c17b1 : decide ((x0_1 == (-1)) = (decide (x6_1 ≥ 64))) = true := by simpa using c17))
                (try (have c17b2 : ((x0_1 == (-1)) == (decide (x6_1 ≥ 64))) = true := by simpa using c17))
                clear c17
                have H' := Aside0.mk H
                clear H
                go_wp2
                go_meet
                case rel => exact ⟨_, (x0_1), (x5_1), (by first | rfl | (simp; done) | (simp [*]; done)), H', ⟨by have := HK1.out; first | omega | exact Nat.le_refl _⟩, ⟨by (with_reducible repeat (first | apply Kd.R_alloc | apply Kd.R_drewN | apply Kd.R_drew)); exact HO_5.out⟩, ⟨by repeat (first | (with_reducible first | exact HB.out | apply below_alloc | apply pw_below_drewN | apply below_drew1) | exact HB.out)⟩⟩
            · rw [if_neg c16] at H
              have c16b0 : (x0_1 == (-1)) = false := beq_eq_false_iff_ne.mpr c16
              have c16b1 : (x0_1 != (-1)) = true := bne_iff_ne.mpr c16
              by_cases c24 : x5_1.length < 140737488355328
              · rw [if_pos c24] at H
                have LMc24 := Aside0.mk c24
                clear c24
                obtain ⟨y228, hy228⟩ : ∃ y_ : List Int, y_ = (x5_1 ++ [(Go.bits .and .i64 x0_1 127) % 256]) := ⟨_, rfl⟩
                replace H : (if 0 ≤ (wrap64 ((y228.length : Int) - 1)) then (if (wrap64 ((y228.length : Int) - 1)) < (y228.length : Int) then (spec_Signed.l0 k1 (x0_1 / 128) a1 y228 (rd y228 (wrap64 ((y228.length : Int) - 1)))) else (none)) else (none)) = some r := by first | (rw [hy228]; with_reducible exact H) | (have H2_ := (Option.bind_some _ _).symm.trans H; rw [hy228]; with_reducible exact H2_) | (have H2_ := (Option.bind_some _ _).symm.trans H; with_reducible exact H2_) | with_reducible exact H | (rw [hy228]; exact H) | exact H
                have Ny228 := Aside0.mk hy228
                clear hy228
                obtain ⟨ji25, hji25⟩ : ∃ j_ : Int, (wrap64 ((y228.length : Int) - 1)) = j_ := ⟨_, rfl⟩
                replace H : (if 0 ≤ (ji25) then (if (ji25) < (y228.length : Int) then (spec_Signed.l0 k1 (x0_1 / 128) a1 y228 (rd y228 (ji25))) else (none)) else (none)) = some r := by first | (rw [hji25] at H; exact H) | (simp only [hji25] at H ⊢; exact H)
                have hji25w : (IntKind.i64.wrap ((y228.length : Int) - 1)) = ji25 := (i64_w _).trans hji25
                by_cases c26 : 0 ≤ (ji25)
                · rw [if_pos c26] at H
                  have c26b0 : decide (0 ≤ (ji25)) = true := decide_eq_true c26
                  clear c26
                  by_cases c27 : (ji25) < (y228.length : Int)
                  · rw [if_pos c27] at H
                    have c27b0 : decide ((ji25) < (y228.length : Int)) = true := decide_eq_true c27
                    clear c27
                    have H' := Aside0.mk H
                    clear H
                    go_wp2_with (first | ((with_reducible refine gate_builtin (b := .append) (xs := #[.tmp 35, .tmp 39]) rfl ?_); at_builtin; refine Kd.R_append (Kd.int .u8) (w0 := w) w.heap.size rfl (.tmp 35) (.tmp 39) 23 5 (.int .u8 0) 1 rfl Tryd.underlying23 info5 rfl (by decide) (by omega) u5 x5_1 ((Go.bits .and .i64 x0_1 127) % 256) [.int .u8 ((Go.bits .and .i64 x0_1 127) % 256)] (fun _ => True) (fun _ => False) rfl rfl ?aP (fun _ hk => hk.elim) ?aF ?aO ?aB ?aS ?aL ?_; (case aP => exact rfl); (case aB => exact qB); (case aF => exact (fun _ _ => trivial)); (case aO => exact (qR HO_5.out)); (case aS => exact (below_size qB)); (case aL => have := LMc24.out; omega); intro v229 w28 ho hb hg hat; rw [← Ny228.out] at ho; have n0_ := Aside0.mk (hb); have n1_ := Aside0.mk (ho); clear HB; clear HO_5; have HB := n0_; have HO230 := n1_; clear n0_ n1_; clear ho hb hg hat; obtain ⟨Ao29, co29, eo29⟩ := Kd.R_slice HO230.out; subst eo29; have p231 : 0 ≤ ((ji25) : Int) := of_decide_eq_true qA; have q231 : (ji25) < (y228.length : Int) := of_decide_eq_true qA; obtain ⟨ad231, e231, hx231_0⟩ := Kd.at_int (Kd.R_reads' HO230.out).2.2 (ji25) p231 q231; cases e231; replace p231 := eq_true p231; replace q231 := eq_true q231))
                    go_roundg k1
                    case measure => have := HK1.out; omega
                    case rel => exact ⟨(x0_1 / 128), (y228), (rd y228 (ji25)), (by first | rfl | (simp; done) | (simp [*]; done)), (by first | rfl | (simp; done) | (simp only [← hji25] <;> (first | rfl | simp)) | (simp [*]; done)), H', ⟨by have := HK1.out; omega⟩, ⟨by (with_reducible repeat (first | apply Kd.R_alloc | apply Kd.R_drewN | apply Kd.R_drew)); exact HO230.out⟩, ⟨by repeat (first | (with_reducible first | exact HB.out | apply below_alloc | apply pw_below_drewN | apply below_drew1) | exact HB.out)⟩⟩
                  · rw [if_neg c27] at H
                    exact absurd H (by simp)
                · rw [if_neg c26] at H
                  exact absurd H (by simp)
              · rw [if_neg c24] at H
                exact absurd H (by simp)
    case rest =>
      clear HC4
      try clear c1
      try clear c2
      try clear p2
      try clear q2
      try clear hx2
      try clear qi2
      try clear c3
      try clear c3b0
      try clear c3b1
      try clear p6
      try clear c8
      try clear c8b0
      try clear c8b1
      try clear c9
      try clear c9b0
      try clear c9b1
      try clear c9b2
      try clear c10
      try clear c12
      try clear c12b0
      try clear c13
      try clear c13b0
      try clear c16
      try clear c16b0
      try clear c16b1
      try clear c17
      try clear c17b0
      try clear c17b1
      try clear c17b2
      try clear c18
      try clear c20
      try clear c20b0
      try clear c21
      try clear c21b0
      try clear p21
      try clear q21
      try clear hx21
      try clear qi21
      try clear p22
      try clear q22
      try clear hx22
      try clear p23
      try clear q23
      try clear hx23
      try clear c24
      try clear c26
      try clear c26b0
      try clear c27
      try clear c27b0
      try clear hx219_0
      try clear hx223_0
      try clear hx227_0
      try clear hx231_0
      try clear p2
      try clear p219
      try clear p223
      try clear p227
      try clear p231
      try clear q2
      try clear q219
      try clear q223
      try clear q227
      try clear q231
      obtain ⟨kq, x0_3, x5_3, rfl, HA, HJ3, HO_5, HB⟩ := hcut
      cases kq with
      | zero => exact absurd HA.out (by simp [spec_Signed.j1])
      | succ kj3 =>
        have H := HA.out
        clear HA
        simp only [spec_Signed.j1] at H
        have H' := Aside0.mk H
        clear H
        go_wp2
        go_loopg [1, 5] kj3 (fun kq v1 v5 w' => ∃ (x1_2 : Int) (x5_2 : List Int), v1 = .int .i64 x1_2 ∧ Aside0 (spec_Signed.l1 kq x0_3 x1_2 x5_2 = some r) ∧ Aside0 (kq ≤ kj3) ∧ Aside0 (Kd.R (Kd.int .u8) 5 w' w.heap.size (fun _ => True) v5 x5_2) ∧ Aside0 (Below w.heap.size w w'))
        case atStart => exact ⟨(a1), (x5_3), (by first | rfl | (simp; done) | (simp [*]; done)), H', ⟨Nat.le_refl _⟩, ⟨by (with_reducible repeat (first | apply Kd.R_alloc | apply Kd.R_drewN | apply Kd.R_drew)); exact HO_5.out⟩, ⟨by repeat (first | (with_reducible first | exact HB.out | apply below_alloc | apply pw_below_drewN | apply below_drew1) | exact HB.out)⟩⟩
        case round =>
          clear H'
          try clear c1
          try clear c2
          try clear p2
          try clear q2
          try clear hx2
          try clear qi2
          try clear c3
          try clear c3b0
          try clear c3b1
          try clear p6
          try clear c8
          try clear c8b0
          try clear c8b1
          try clear c9
          try clear c9b0
          try clear c9b1
          try clear c9b2
          try clear c10
          try clear c12
          try clear c12b0
          try clear c13
          try clear c13b0
          try clear c16
          try clear c16b0
          try clear c16b1
          try clear c17
          try clear c17b0
          try clear c17b1
          try clear c17b2
          try clear c18
          try clear c20
          try clear c20b0
          try clear c21
          try clear c21b0
          try clear p21
          try clear q21
          try clear hx21
          try clear qi21
          try clear p22
          try clear q22
          try clear hx22
          try clear p23
          try clear q23
          try clear hx23
          try clear c24
          try clear c26
          try clear c26b0
          try clear c27
          try clear c27b0
          try clear hx219_0
          try clear hx223_0
          try clear hx227_0
          try clear hx231_0
          try clear p2
          try clear p21
          try clear p219
          try clear p22
          try clear p223
          try clear p227
          try clear p23
          try clear p231
          try clear p6
          try clear q2
          try clear q21
          try clear q219
          try clear q22
          try clear q223
          try clear q227
          try clear q23
          try clear q231
          obtain ⟨x1_2, x5_2, rfl, HA, HK2, HO_5, HB⟩ := hrel
          cases gk with
          | zero => exact absurd HA.out (by simp [spec_Signed.l1])
          | succ k2 =>
            have H := HA.out
            clear HA
            simp only [spec_Signed.l1] at H
            by_cases c30 : x1_2 > 0
            · rw [if_pos c30] at H
              have c30b0 : decide (0 < x1_2) = true := decide_eq_true c30
              clear c30
              by_cases c31 : x5_2.length < 140737488355328
              · rw [if_pos c31] at H
                have LMc31 := Aside0.mk c31
                clear c31
                obtain ⟨y232, hy232⟩ : ∃ y_ : List Int, y_ = (x5_2 ++ [(Go.bits .and .i64 x0_3 127) % 256]) := ⟨_, rfl⟩
                replace H : (spec_Signed.l1 k2 x0_3 (wrap64 (x1_2 - 1)) y232) = some r := by first | (rw [hy232]; with_reducible exact H) | (have H2_ := (Option.bind_some _ _).symm.trans H; rw [hy232]; with_reducible exact H2_) | (have H2_ := (Option.bind_some _ _).symm.trans H; with_reducible exact H2_) | with_reducible exact H | (rw [hy232]; exact H) | exact H
                have Ny232 := Aside0.mk hy232
                clear hy232
                have H' := Aside0.mk H
                clear H
                go_wp2_with (first | ((with_reducible refine gate_builtin (b := .append) (xs := #[.tmp 47, .tmp 51]) rfl ?_); at_builtin; refine Kd.R_append (Kd.int .u8) (w0 := w) w.heap.size rfl (.tmp 47) (.tmp 51) 23 5 (.int .u8 0) 1 rfl Tryd.underlying23 info5 rfl (by decide) (by omega) u5 x5_2 ((Go.bits .and .i64 x0_3 127) % 256) [.int .u8 ((Go.bits .and .i64 x0_3 127) % 256)] (fun _ => True) (fun _ => False) rfl rfl ?aP (fun _ hk => hk.elim) ?aF ?aO ?aB ?aS ?aL ?_; (case aP => exact rfl); (case aB => exact qB); (case aF => exact (fun _ _ => trivial)); (case aO => exact (qR HO_5.out)); (case aS => exact (below_size qB)); (case aL => have := LMc31.out; omega); intro v233 w32 ho hb hg hat; rw [← Ny232.out] at ho; have n0_ := Aside0.mk (hb); have n1_ := Aside0.mk (ho); clear HB; clear HO_5; have HB := n0_; have HO234 := n1_; clear n0_ n1_; clear ho hb hg hat))
                go_roundg k2
                case measure => have := HJ3.out; have := HK2.out; omega
                case rel => exact ⟨(wrap64 (x1_2 - 1)), (y232), (by first | rfl | (simp; done) | (simp [*]; done)), H', ⟨by have := HJ3.out; have := HK2.out; omega⟩, ⟨by (with_reducible repeat (first | apply Kd.R_alloc | apply Kd.R_drewN | apply Kd.R_drew)); exact HO234.out⟩, ⟨by repeat (first | (with_reducible first | exact HB.out | apply below_alloc | apply pw_below_drewN | apply below_drew1) | exact HB.out)⟩⟩
              · rw [if_neg c31] at H
                exact absurd H (by simp)
            · rw [if_neg c30] at H
              have c30b0 : decide (0 < x1_2) = false := decide_eq_false c30
              clear c30
              replace H := Option.bind_eq_some_iff.mp H
              obtain ⟨t235, A330, H⟩ := H
              replace H : (some t235) = some r := H
              have A33 := Aside0.mk A330
              clear A330
              obtain rfl := Option.some.inj H
              obtain ⟨Ao34, co34, eo34⟩ := Kd.R_slice HO_5.out
              subst eo34
              go_wp2_with (first | ((with_reducible refine gate_callee (f := 23) rfl ?_); refine goesL_ (some 54) rfl rfl Tryd.func23 (by kernel_rfl) rfl #[.slice Ao34 x5_2.length co34] rfl qL ?_; (with_reducible refine (spec_carried.calls k2 (fun k_ => some k_ = (.slice Ao34 x5_2.length co34 : Value).ownBlock) (.slice Ao34 x5_2.length co34) x5_2 t235 w _ ?side1 ?side2 A33.out).mono ?_); (case side1 => repeat (first | (with_reducible first | exact HB.out | apply below_alloc | apply pw_below_drewN | apply below_drew1) | exact HB.out)); (case side2 => exact Kd.R_tight rfl HO_5.out); rintro e w35 ⟨v236, rfl, ho0, hb, hkp⟩; refine ⟨_, rfl, ?_⟩; have n0_ := Aside0.mk (Kd.R_mono (ok' := fun k_ => True) ho0 (fun k_ hk_ => trivial)); have n1_ := Aside0.mk (hb); clear HB; clear HO_5; have HO237 := n0_; have HB := n1_; clear n0_ n1_; (try clear hb); (try clear hkp); (try clear ho0)))
              go_ret
              exact ⟨_, by first | rfl | (simp [errW_none, errW_some] <;> rfl) | (simp [*, errW_none, errW_some] <;> rfl), by (with_reducible repeat (first | apply Kd.R_alloc | apply Kd.R_drewN | apply Kd.R_drew)); exact HO237.out, by repeat (first | (with_reducible first | exact HB.out | apply below_alloc | apply pw_below_drewN | apply below_drew1) | exact HB.out)⟩
  · rw [if_neg c3] at H
    exact absurd H (by simp)
end Go.Proofs.YtnooghnbohjmlaaDoor.PPl
