-- Printed by a program of this session (mkprint.py over the kit's print.py)
import Derived.Test.YtkgkdppjopilmaaGiven1
import Derived.Test.YtkgkdppjopilmaaPUnitx0
namespace Go.Proofs.Ytkgkdppjopilmaa.PUnit
open Go.RowKit Go.Proofs.YtkgkdppjopilmaaW.PrintWords Go.Proofs.YtkgkdppjopilmaaW.PrintLast Go.Proofs.YtkgkdppjopilmaaW.PrintMore Go.Proofs.Ytkgkdppjopilmaa.Given
attribute [local go_sem] max2_int min2_int max_two min_two max_three min_three max_four min_four   -- for this text's walks alone
set_option linter.unusedVariables false
set_option linter.unusedSimpArgs false

/-! ### spec_Fixed: function 34 -/
def spec_Fixed.l0 : Nat → Int → Int → Bool → List Int → Int → Option (List Int)
  | 0, _, _, _, _, _ => none
  | k + 1, x0, x1, x2, x7, x8 => if x8 < x1 then (if x2 = true then (if 0 ≤ (wrap64 ((wrap64 (x1 - 1)) - x8)) then (if (wrap64 ((wrap64 (x1 - 1)) - x8)) < (x7.length : Int) then (spec_Fixed.l0 k (x0 / 256) x1 x2 (x7.set ((wrap64 ((wrap64 (x1 - 1)) - x8)) : Int).toNat ((x0) % 256)) (wrap64 (x8 + 1))) else (none)) else (none)) else (if 0 ≤ x8 then (if x8 < (x7.length : Int) then (spec_Fixed.l0 k (x0 / 256) x1 x2 (x7.set (x8 : Int).toNat ((x0) % 256)) (wrap64 (x8 + 1))) else (none)) else (none))) else (some x7)
def spec_Fixed.f (k : Nat) (a0 : Int) (a1 : Int) (a2 : Bool) : Option (List Int) := if 0 ≤ a1 then (if (a1 : Int).toNat ≤ 281474976710656 then (spec_Fixed.l0 k a0 a1 a2 (List.replicate (a1 : Int).toNat 0) 0) else (none)) else (none)
theorem spec_Fixed.mono_l : ∀ k, (∀ y0 y1 y2 y3 y4, LeO (spec_Fixed.l0 k y0 y1 y2 y3 y4) (spec_Fixed.l0 (k + 1) y0 y1 y2 y3 y4))
  | 0 => fun _ _ _ _ _ r h => by simp [spec_Fixed.l0] at h
  | k + 1 => by
    have ih0 := spec_Fixed.mono_l k
    · intro y0 y1 y2 y3 y4
      unfold spec_Fixed.l0
      repeat' first
      | (with_reducible exact ih0 _ _ _ _ _)
      | (with_reducible exact LeO.refl _)
      | (with_reducible exact LeO.none _)
      | (with_reducible refine LeO.ite ?_ ?_)
      | (with_reducible refine LeO.bind ?_ (fun _ => ?_))
      | exact ih0 _ _ _ _ _
      | exact LeO.none _
      | refine LeO.ite ?_ ?_
      | refine LeO.bind ?_ (fun _ => ?_)
theorem spec_Fixed.mono : ∀ a0 a1 a2 k, LeO (spec_Fixed.f k a0 a1 a2) (spec_Fixed.f (k + 1) a0 a1 a2) := by
  intro a0 a1 a2 k
  have ih0 := spec_Fixed.mono_l k
  unfold spec_Fixed.f
  repeat' first
      | (with_reducible exact ih0 _ _ _ _ _)
      | (with_reducible exact LeO.refl _)
      | (with_reducible exact LeO.none _)
      | (with_reducible refine LeO.ite ?_ ?_)
      | (with_reducible refine LeO.bind ?_ (fun _ => ?_))
      | exact ih0 _ _ _ _ _
      | exact LeO.none _
      | refine LeO.ite ?_ ?_
      | refine LeO.bind ?_ (fun _ => ?_)
set_option maxHeartbeats 8000000 in
set_option maxRecDepth 100000 in
theorem spec_Fixed.calls (k : Nat) (a0 : Int) (a1 : Int) (a2 : Bool) (r : List Int) (w : World) (h : spec_Fixed.f k a0 a1 a2 = some r) :
    Calls Try.prog 34 #[.int .u64 a0, .int .i64 a1, .bool a2] w fun e w' => ∃ v0_ : Value, e = .returned (v0_) ∧ Kd.R (Kd.int .u8) 5 w' w.heap.size (fun _ => True) v0_ r ∧ Below w.heap.size w w' := by
  have HB := Aside0.mk (Below.refl w.heap.size w)
  have H : (if 0 ≤ a1 then (if (a1 : Int).toNat ≤ 281474976710656 then (spec_Fixed.l0 k a0 a1 a2 (List.replicate (a1 : Int).toNat 0) 0) else (none)) else (none)) = some r := h
  clear h
  by_cases c4 : 0 ≤ a1
  · rw [if_pos c4] at H
    have c4b0 := eq_true c4
    have c4b1 : decide (0 ≤ a1) = true := decide_eq_true c4
    clear c4
    by_cases c5 : (a1 : Int).toNat ≤ 281474976710656
    · rw [if_pos c5] at H
      have c5b0 := eq_true c5
      have c5b1 : decide ((a1 : Int).toNat ≤ 281474976710656) = true := decide_eq_true c5
      clear c5
      obtain ⟨y101, hy101⟩ : ∃ y_ : List Int, y_ = (List.replicate (a1 : Int).toNat 0) := ⟨_, rfl⟩
      replace H : (spec_Fixed.l0 k a0 a1 a2 y101 0) = some r := by first | (rw [hy101]; with_reducible exact H) | (have H2_ := (Option.bind_some _ _).symm.trans H; rw [hy101]; with_reducible exact H2_) | (have H2_ := (Option.bind_some _ _).symm.trans H; with_reducible exact H2_) | with_reducible exact H | (rw [hy101]; exact H) | exact H
      have Ny101 := Aside0.mk hy101
      clear hy101
      have H' := Aside0.mk H
      clear H
      go_enter Try.func34, Try.ntmps34
      go_wp2_with (first | ((with_reducible refine gate_dst (N := 11) rfl ?_); refine Kd.R_make (Kd.int .u8) _ 5 rfl (N := 11) rfl 22 _ _ rfl a1 rfl rfl Try.underlying22 (.int .u8 0) 1 info5 rfl (by decide) (by omega) 0 (ok := fun _ => True) (okp := fun _ => True) rfl (fun _ hk => hk) trivial (of_decide_eq_true (by first | (with_reducible assumption) | assumption)) (Nat.le_trans (Nat.mul_le_mul_right _ (of_decide_eq_true (by first | (with_reducible assumption) | assumption) : a1.toNat ≤ 281474976710656)) (by omega)) (Below.refl _ _) (Nat.le_refl _) ?_; intro v102 w6 ho7 hb hg_ hnew_; clear hg_ hnew_; (first | rw [← Ny101.out] at ho7 | (simp only [Int.reduceToNat] at ho7; rw [← Ny101.out] at ho7)); have n0_ := Aside0.mk (Kd.R_lower ho7 (below_size (by repeat (first | (with_reducible first | exact HB.out | apply below_alloc | apply pw_below_drewN | apply below_drew1) | exact HB.out)))); have n1_ := Aside0.mk (below_step (by repeat (first | (with_reducible first | exact HB.out | apply below_alloc | apply pw_below_drewN | apply below_drew1) | exact HB.out)) hb); clear HB; have HO103 := n0_; have HB := n1_; clear n0_ n1_; clear hb ho7))
      go_loopg [0, 8] k (fun kq v0 v8 w' => ∃ (x0_1 : Int) (x7_1 : List Int) (x8_1 : Int), v0 = .int .u64 x0_1 ∧ v8 = .int .i64 x8_1 ∧ Aside0 (spec_Fixed.l0 kq x0_1 a1 a2 x7_1 x8_1 = some r) ∧ Aside0 (kq ≤ k) ∧ Aside0 (Kd.R (Kd.int .u8) 5 w' w.heap.size (fun _ => True) v102 x7_1) ∧ Aside0 (Below w.heap.size w w'))
      case atStart => exact ⟨(a0), (y101), (0), (by first | rfl | (simp; done) | (simp [*]; done)), (by first | rfl | (simp; done) | (simp [*]; done)), H', ⟨Nat.le_refl _⟩, ⟨by (with_reducible repeat (first | apply Kd.R_alloc | apply Kd.R_drewN | apply Kd.R_drew)); exact HO103.out⟩, ⟨by repeat (first | (with_reducible first | exact HB.out | apply below_alloc | apply pw_below_drewN | apply below_drew1) | exact HB.out)⟩⟩
      case round =>
        clear H'
        try clear p2
        try clear c3
        try clear c4
        try clear c4b0
        try clear c4b1
        try clear c5
        try clear c5b0
        try clear c5b1
        obtain ⟨x0_1, x7_1, x8_1, rfl, rfl, HA, HK1, HO_7, HB⟩ := hrel
        cases gk with
        | zero => exact absurd HA.out (by simp [spec_Fixed.l0])
        | succ k1 =>
          have H := HA.out
          clear HA
          simp only [spec_Fixed.l0] at H
          by_cases c8 : x8_1 < a1
          · rw [if_pos c8] at H
            have c8b0 : decide (x8_1 < a1) = true := decide_eq_true c8
            clear c8
            by_cases c9 : a2 = true
            · subst c9
              have H1 : (if 0 ≤ (wrap64 ((wrap64 (a1 - 1)) - x8_1)) then (if (wrap64 ((wrap64 (a1 - 1)) - x8_1)) < (x7_1.length : Int) then (spec_Fixed.l0 k1 (x0_1 / 256) a1 true (x7_1.set ((wrap64 ((wrap64 (a1 - 1)) - x8_1)) : Int).toNat ((x0_1) % 256)) (wrap64 (x8_1 + 1))) else (none)) else (none)) = some r := by rw [if_pos rfl] at H; exact H
              clear H
              have H := H1
              clear H1
              obtain ⟨ji10, hji10⟩ : ∃ j_ : Int, (wrap64 ((wrap64 (a1 - 1)) - x8_1)) = j_ := ⟨_, rfl⟩
              replace H : (if 0 ≤ (ji10) then (if (ji10) < (x7_1.length : Int) then (spec_Fixed.l0 k1 (x0_1 / 256) a1 true (x7_1.set ((ji10) : Int).toNat ((x0_1) % 256)) (wrap64 (x8_1 + 1))) else (none)) else (none)) = some r := by first | (rw [hji10] at H; exact H) | (simp only [hji10] at H ⊢; exact H)
              have hji10w : (IntKind.i64.wrap ((wrap64 (a1 - 1)) - x8_1)) = ji10 := (i64_w _).trans hji10
              by_cases c11 : 0 ≤ (ji10)
              · rw [if_pos c11] at H
                have c11b0 : decide (0 ≤ (ji10)) = true := decide_eq_true c11
                clear c11
                by_cases c12 : (ji10) < (x7_1.length : Int)
                · rw [if_pos c12] at H
                  have c12b0 : decide ((ji10) < (x7_1.length : Int)) = true := decide_eq_true c12
                  clear c12
                  obtain ⟨y104, hy104⟩ : ∃ y_ : List Int, y_ = (x7_1.set ((ji10) : Int).toNat ((x0_1) % 256)) := ⟨_, rfl⟩
                  replace H : (spec_Fixed.l0 k1 (x0_1 / 256) a1 true y104 (wrap64 (x8_1 + 1))) = some r := by first | (rw [hy104]; with_reducible exact H) | (have H2_ := (Option.bind_some _ _).symm.trans H; rw [hy104]; with_reducible exact H2_) | (have H2_ := (Option.bind_some _ _).symm.trans H; with_reducible exact H2_) | with_reducible exact H | (rw [hy104]; exact H) | exact H
                  have Ny104 := Aside0.mk hy104
                  clear hy104
                  have H' := Aside0.mk H
                  clear H
                  have p13 : 0 ≤ ((ji10) : Int) := of_decide_eq_true (by first | (with_reducible assumption) | assumption)
                  have q13 : ((ji10) : Int) < ((x7_1.length : Int) : Int) := of_decide_eq_true (by first | (with_reducible assumption) | assumption)
                  obtain ⟨go13, co13, eo13, gb13, gl13, cl13, HG13⟩ := Kd.R_form HO_7.out (by omega)
                  (first | cases eo13 | (injection eo13 with ea_ en_ ec_; (first | subst ea_ | (injection ea_ with ea_; subst ea_)); subst ec_; clear en_))
                  have GB13 := Aside0.mk gb13
                  have GG13 := Aside0.mk HG13
                  clear gb13 gl13 HG13
                  obtain ⟨hx13_0, hf13_0⟩ := Kd.R_celln 0 HO_7.out ((ji10) : Int) p13 q13
                  replace p13 := eq_true p13
                  replace q13 := eq_true q13
                  have HP14 := Kd.R_putg HO_7.out ((ji10) : Int) ((x0_1) % 256)
                  go_wp2_with (first | ((with_reducible refine gate_store (t := 5) (p := 27) rfl ?_); refine store_event (t := 5) (p := 27) (v := ?vo_w15) (w1 := (wr.setCell ⟨go13, ((ji10) : Int).toNat, none⟩ (.int .u8 ((x0_1) % 256)))) ?hg ?ho ?hn ?hr ?_; (case ho => rfl); (case hg => rfl); (case hn => rfl); (case hr => first | (go_simp; done) | (go_simp; rfl)); intro w15 hw; have hg : wr.grownBy w15 (some go13) := (by rw [hw]; exact HP14.2); have hp_ : Kd.R (Kd.int .u8) 5 w15 w.heap.size (fun _ => True) (.slice (some ⟨go13, 0, none⟩) x7_1.length co13) y104 := (by rw [hw, Ny104.out]; exact HP14.1); clear HP14; have n0_ := Aside0.mk (hp_); have n1_ := Aside0.mk ((by rw [hw]; exact below_set (HB.out) GB13.out : Below w.heap.size w w15)); clear HO_7; clear HB; have HO_7 := n0_; have HB := n1_; clear n0_ n1_; clear hg hw hp_))
                  go_roundg k1
                  case measure => have := HK1.out; omega
                  case rel => exact ⟨(x0_1 / 256), (y104), (wrap64 (x8_1 + 1)), (by first | rfl | (simp; done) | (simp [*]; done)), (by first | rfl | (simp; done) | (simp [*]; done)), H', ⟨by have := HK1.out; omega⟩, ⟨by (with_reducible repeat (first | apply Kd.R_alloc | apply Kd.R_drewN | apply Kd.R_drew)); exact HO_7.out⟩, ⟨by repeat (first | (with_reducible first | exact HB.out | apply below_alloc | apply pw_below_drewN | apply below_drew1) | exact HB.out)⟩⟩
                · rw [if_neg c12] at H
                  exact absurd H (by simp)
              · rw [if_neg c11] at H
                exact absurd H (by simp)
            · replace c9 := Bool.eq_false_iff.mpr c9
              subst c9
              have H1 : (if 0 ≤ x8_1 then (if x8_1 < (x7_1.length : Int) then (spec_Fixed.l0 k1 (x0_1 / 256) a1 false (x7_1.set (x8_1 : Int).toNat ((x0_1) % 256)) (wrap64 (x8_1 + 1))) else (none)) else (none)) = some r := by rw [if_neg (show ¬ (false = true) by decide)] at H; exact H
              clear H
              have H := H1
              clear H1
              by_cases c16 : 0 ≤ x8_1
              · rw [if_pos c16] at H
                have c16b0 : decide (0 ≤ x8_1) = true := decide_eq_true c16
                clear c16
                by_cases c17 : x8_1 < (x7_1.length : Int)
                · rw [if_pos c17] at H
                  have c17b0 : decide (x8_1 < (x7_1.length : Int)) = true := decide_eq_true c17
                  clear c17
                  obtain ⟨y105, hy105⟩ : ∃ y_ : List Int, y_ = (x7_1.set (x8_1 : Int).toNat ((x0_1) % 256)) := ⟨_, rfl⟩
                  replace H : (spec_Fixed.l0 k1 (x0_1 / 256) a1 false y105 (wrap64 (x8_1 + 1))) = some r := by first | (rw [hy105]; with_reducible exact H) | (have H2_ := (Option.bind_some _ _).symm.trans H; rw [hy105]; with_reducible exact H2_) | (have H2_ := (Option.bind_some _ _).symm.trans H; with_reducible exact H2_) | with_reducible exact H | (rw [hy105]; exact H) | exact H
                  have Ny105 := Aside0.mk hy105
                  clear hy105
                  have H' := Aside0.mk H
                  clear H
                  have p18 : 0 ≤ (x8_1 : Int) := of_decide_eq_true (by first | (with_reducible assumption) | assumption)
                  have q18 : (x8_1 : Int) < ((x7_1.length : Int) : Int) := of_decide_eq_true (by first | (with_reducible assumption) | assumption)
                  obtain ⟨go18, co18, eo18, gb18, gl18, cl18, HG18⟩ := Kd.R_form HO_7.out (by omega)
                  (first | cases eo18 | (injection eo18 with ea_ en_ ec_; (first | subst ea_ | (injection ea_ with ea_; subst ea_)); subst ec_; clear en_))
                  have GB18 := Aside0.mk gb18
                  have GG18 := Aside0.mk HG18
                  clear gb18 gl18 HG18
                  obtain ⟨hx18_0, hf18_0⟩ := Kd.R_celln 0 HO_7.out (x8_1 : Int) p18 q18
                  replace p18 := eq_true p18
                  replace q18 := eq_true q18
                  have HP19 := Kd.R_putg HO_7.out (x8_1 : Int) ((x0_1) % 256)
                  go_wp2_with (first | ((with_reducible refine gate_store (t := 5) (p := 27) rfl ?_); refine store_event (t := 5) (p := 27) (v := ?vo_w20) (w1 := (wr.setCell ⟨go18, (x8_1 : Int).toNat, none⟩ (.int .u8 ((x0_1) % 256)))) ?hg ?ho ?hn ?hr ?_; (case ho => rfl); (case hg => rfl); (case hn => rfl); (case hr => first | (go_simp; done) | (go_simp; rfl)); intro w20 hw; have hg : wr.grownBy w20 (some go18) := (by rw [hw]; exact HP19.2); have hp_ : Kd.R (Kd.int .u8) 5 w20 w.heap.size (fun _ => True) (.slice (some ⟨go18, 0, none⟩) x7_1.length co18) y105 := (by rw [hw, Ny105.out]; exact HP19.1); clear HP19; have n0_ := Aside0.mk (hp_); have n1_ := Aside0.mk ((by rw [hw]; exact below_set (HB.out) GB18.out : Below w.heap.size w w20)); clear HO_7; clear HB; have HO_7 := n0_; have HB := n1_; clear n0_ n1_; clear hg hw hp_))
                  go_roundg k1
                  case measure => have := HK1.out; omega
                  case rel => exact ⟨(x0_1 / 256), (y105), (wrap64 (x8_1 + 1)), (by first | rfl | (simp; done) | (simp [*]; done)), (by first | rfl | (simp; done) | (simp [*]; done)), H', ⟨by have := HK1.out; omega⟩, ⟨by (with_reducible repeat (first | apply Kd.R_alloc | apply Kd.R_drewN | apply Kd.R_drew)); exact HO_7.out⟩, ⟨by repeat (first | (with_reducible first | exact HB.out | apply below_alloc | apply pw_below_drewN | apply below_drew1) | exact HB.out)⟩⟩
                · rw [if_neg c17] at H
                  exact absurd H (by simp)
              · rw [if_neg c16] at H
                exact absurd H (by simp)
          · rw [if_neg c8] at H
            have c8b0 : decide (x8_1 < a1) = false := decide_eq_false c8
            clear c8
            obtain rfl := Option.some.inj H
            go_wp2
            go_ret
            exact ⟨_, by first | rfl | (simp [errW_none, errW_some] <;> rfl) | (simp [*, errW_none, errW_some] <;> rfl), by (with_reducible repeat (first | apply Kd.R_alloc | apply Kd.R_drewN | apply Kd.R_drew)); exact HO_7.out, by repeat (first | (with_reducible first | exact HB.out | apply below_alloc | apply pw_below_drewN | apply below_drew1) | exact HB.out)⟩
    · rw [if_neg c5] at H
      exact absurd H (by simp)
  · rw [if_neg c4] at H
    exact absurd H (by simp)

/-! ### spec_Offset: function 24 -/
def spec_Offset.f (k : Nat) (a0 : Int) (a1 : Bool) (a2 : Bool) : Option (List Int) := if a1 = true then ((spec_Fixed.f k (IntKind.u64.wrap (a0)) 8 a2).bind fun t106 => (some t106)) else ((spec_Fixed.f k (IntKind.u64.wrap (a0)) 4 a2).bind fun t109 => (some t109))
theorem spec_Offset.mono : ∀ a0 a1 a2 k, LeO (spec_Offset.f k a0 a1 a2) (spec_Offset.f (k + 1) a0 a1 a2) := by
  intro a0 a1 a2 k
  unfold spec_Offset.f
  repeat' first
      | (with_reducible exact spec_Fixed.mono _ _ _ _)
      | (with_reducible exact LeO.refl _)
      | (with_reducible exact LeO.none _)
      | (with_reducible refine LeO.ite ?_ ?_)
      | (with_reducible refine LeO.bind ?_ (fun _ => ?_))
      | exact spec_Fixed.mono _ _ _ _
      | exact LeO.none _
      | refine LeO.ite ?_ ?_
      | refine LeO.bind ?_ (fun _ => ?_)
set_option maxHeartbeats 8000000 in
set_option maxRecDepth 100000 in
theorem spec_Offset.calls (k : Nat) (a0 : Int) (a1 : Bool) (a2 : Bool) (r : List Int) (w : World) (h : spec_Offset.f k a0 a1 a2 = some r) :
    Calls Try.prog 24 #[.int .i64 a0, .bool a1, .bool a2] w fun e w' => ∃ v0_ : Value, e = .returned (v0_) ∧ Kd.R (Kd.int .u8) 5 w' w.heap.size (fun _ => True) v0_ r ∧ Below w.heap.size w w' := by
  have HB := Aside0.mk (Below.refl w.heap.size w)
  have H : (if a1 = true then ((spec_Fixed.f k (IntKind.u64.wrap (a0)) 8 a2).bind fun t106 => (some t106)) else ((spec_Fixed.f k (IntKind.u64.wrap (a0)) 4 a2).bind fun t109 => (some t109))) = some r := h
  clear h
  by_cases c4 : a1 = true
  · subst c4
    have H1 : ((spec_Fixed.f k (IntKind.u64.wrap (a0)) 8 a2).bind fun t106 => (some t106)) = some r := by rw [if_pos rfl] at H; exact H
    clear H
    have H := H1
    clear H1
    replace H := Option.bind_eq_some_iff.mp H
    obtain ⟨t106, A50, H⟩ := H
    replace H : (some t106) = some r := H
    have A5 := Aside0.mk A50
    clear A50
    obtain rfl := Option.some.inj H
    go_enter Try.func24, Try.ntmps24
    go_wp2_with (first | ((with_reducible refine gate_callee (f := 34) rfl ?_); refine goesL_ (some 11) rfl rfl Try.func34 (by kernel_rfl) rfl #[.int .u64 (IntKind.u64.wrap (a0)), .int .i64 8, .bool a2] rfl (by (try simp only [List.map_toArray, List.map_cons, List.map_nil]); first | done | rfl | (simp only [List.length_drop, List.length_take]; rfl)) ?_; (with_reducible refine (spec_Fixed.calls k (IntKind.u64.wrap (a0)) 8 a2 t106 _ A5.out).mono ?_); rintro e w6 ⟨v107, rfl, ho0, hb⟩; refine ⟨_, rfl, ?_⟩; have n0_ := Aside0.mk (Kd.R_lower ho0 (below_size (by repeat (first | (with_reducible first | exact HB.out | apply below_alloc | apply pw_below_drewN | apply below_drew1) | exact HB.out)))); have n1_ := Aside0.mk (below_step (by repeat (first | (with_reducible first | exact HB.out | apply below_alloc | apply pw_below_drewN | apply below_drew1) | exact HB.out)) hb); clear HB; have HO108 := n0_; have HB := n1_; clear n0_ n1_; (try clear hb); (try clear hb2); (try clear hk); (try clear hi); (try clear ho0)))
    go_ret
    exact ⟨_, by first | rfl | (simp [errW_none, errW_some] <;> rfl) | (simp [*, errW_none, errW_some] <;> rfl), by (with_reducible repeat (first | apply Kd.R_alloc | apply Kd.R_drewN | apply Kd.R_drew)); exact HO108.out, by repeat (first | (with_reducible first | exact HB.out | apply below_alloc | apply pw_below_drewN | apply below_drew1) | exact HB.out)⟩
  · replace c4 := Bool.eq_false_iff.mpr c4
    subst c4
    have H1 : ((spec_Fixed.f k (IntKind.u64.wrap (a0)) 4 a2).bind fun t109 => (some t109)) = some r := by rw [if_neg (show ¬ (false = true) by decide)] at H; exact H
    clear H
    have H := H1
    clear H1
    replace H := Option.bind_eq_some_iff.mp H
    obtain ⟨t109, A70, H⟩ := H
    replace H : (some t109) = some r := H
    have A7 := Aside0.mk A70
    clear A70
    obtain rfl := Option.some.inj H
    go_enter Try.func24, Try.ntmps24
    go_wp2_with (first | ((with_reducible refine gate_callee (f := 34) rfl ?_); refine goesL_ (some 15) rfl rfl Try.func34 (by kernel_rfl) rfl #[.int .u64 (IntKind.u64.wrap (a0)), .int .i64 4, .bool a2] rfl (by (try simp only [List.map_toArray, List.map_cons, List.map_nil]); first | done | rfl | (simp only [List.length_drop, List.length_take]; rfl)) ?_; (with_reducible refine (spec_Fixed.calls k (IntKind.u64.wrap (a0)) 4 a2 t109 _ A7.out).mono ?_); rintro e w8 ⟨v110, rfl, ho0, hb⟩; refine ⟨_, rfl, ?_⟩; have n0_ := Aside0.mk (Kd.R_lower ho0 (below_size (by repeat (first | (with_reducible first | exact HB.out | apply below_alloc | apply pw_below_drewN | apply below_drew1) | exact HB.out)))); have n1_ := Aside0.mk (below_step (by repeat (first | (with_reducible first | exact HB.out | apply below_alloc | apply pw_below_drewN | apply below_drew1) | exact HB.out)) hb); clear HB; have HO111 := n0_; have HB := n1_; clear n0_ n1_; (try clear hb); (try clear hb2); (try clear hk); (try clear hi); (try clear ho0)))
    go_ret
    exact ⟨_, by first | rfl | (simp [errW_none, errW_some] <;> rfl) | (simp [*, errW_none, errW_some] <;> rfl), by (with_reducible repeat (first | apply Kd.R_alloc | apply Kd.R_drewN | apply Kd.R_drew)); exact HO111.out, by repeat (first | (with_reducible first | exact HB.out | apply below_alloc | apply pw_below_drewN | apply below_drew1) | exact HB.out)⟩

end Go.Proofs.Ytkgkdppjopilmaa.PUnit
