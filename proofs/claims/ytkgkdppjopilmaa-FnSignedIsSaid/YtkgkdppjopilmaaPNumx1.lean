-- Printed by a program of this session (mkprint.py over the kit's print.py)
import Derived.Test.YtkgkdppjopilmaaPNumx0
import Derived.Test.YtkgkdppjopilmaaGiven0
import Derived.Test.YtkgkdppjopilmaaGiven1
namespace Go.Proofs.Ytkgkdppjopilmaa.PNum
open Go.RowKit Go.Proofs.YtkgkdppjopilmaaW.PrintWords Go.Proofs.YtkgkdppjopilmaaW.PrintLast Go.Proofs.YtkgkdppjopilmaaW.PrintMore Go.Proofs.Ytkgkdppjopilmaa.Given
attribute [local go_sem] max2_int min2_int max_two min_two max_three min_three max_four min_four   -- for this text's walks alone
set_option linter.unusedVariables false
set_option linter.unusedSimpArgs false

/-! ### impl_Text: function 19 -/
def impl_Text.f (l0 : List Int) : Option (ByteArray × Int × Bool) := (impl_copied.f l0).bind fun t101 => ((dwarf_Text.f t101).bind fun bt104 => (some (bt104.1, bt104.2.1, bt104.2.2)))
set_option maxHeartbeats 8000000 in
set_option maxRecDepth 100000 in
theorem impl_Text.calls (A0 : Option Addr) (c0 : Nat) (l0 : List Int) (r1 : ByteArray) (r2 : Int) (r3 : Bool) (w : World) (hr0 : Kd.C (Kd.int .u8) w A0 l0.length l0) (hc0 : l0.length ≤ c0) (h : impl_Text.f l0 = some (r1, r2, r3)) :
    Calls Try.prog 19 #[.slice A0 l0.length c0] w fun e w' => e = .returned (.tuple #[.string r1, .int .i64 r2, .bool r3]) ∧ Below w.heap.size w w' := by
  have HR0 := Aside0.mk hr0
  have HC0 := Aside0.mk hc0
  clear hr0 hc0
  have HB := Aside0.mk (Below.refl w.heap.size w)
  have H : ((impl_copied.f l0).bind fun t101 => ((dwarf_Text.f t101).bind fun bt104 => (some (bt104.1, bt104.2.1, bt104.2.2)))) = some (r1, r2, r3) := h
  clear h
  replace H := Option.bind_eq_some_iff.mp H
  obtain ⟨t101, A20, H⟩ := H
  replace H : ((dwarf_Text.f t101).bind fun bt104 => (some (bt104.1, bt104.2.1, bt104.2.2))) = some (r1, r2, r3) := H
  have A2 := Aside0.mk A20
  clear A20
  replace H := Option.bind_eq_some_iff.mp H
  obtain ⟨⟨t104, t105, t106⟩, A30, H⟩ := H
  replace H : (some (t104, t105, t106)) = some (r1, r2, r3) := H
  have A3 := Aside0.mk A30
  clear A30
  simp only [Option.some.injEq, Prod.mk.injEq] at H
  obtain ⟨rfl, rfl, rfl⟩ := H
  go_enter Try.func19, Try.ntmps19
  go_wp2_with (first | ((with_reducible refine gate_callee (f := 28) rfl ?_); refine goesL_ (some 6) rfl rfl Try.func28 (by kernel_rfl) rfl #[.slice A0 l0.length c0] rfl (by (try simp only [List.map_toArray, List.map_cons, List.map_nil]); first | done | rfl | (simp only [List.length_drop, List.length_take]; rfl)) ?_; (with_reducible refine (impl_copied.calls _ _ l0 t101 _ ?side1 ?side2 A2.out).mono ?_); (case side1 => repeat (first | exact HR0.out | (with_reducible refine Kd.C_alloc ?_ _) | (with_reducible refine Kd.C_drewN ?_ _) | (with_reducible refine Kd.C_drew ?_))); (case side2 => exact HC0.out); rintro e w4 ⟨v102, rfl, ho0, hb⟩; refine ⟨_, rfl, ?_⟩; have n0_ := Aside0.mk (Kd.R_lower ho0 (below_size (by repeat (first | (with_reducible first | exact HB.out | apply below_alloc | apply pw_below_drewN | apply below_drew1) | exact HB.out)))); have n1_ := Aside0.mk (below_step (by repeat (first | (with_reducible first | exact HB.out | apply below_alloc | apply pw_below_drewN | apply below_drew1) | exact HB.out)) hb); clear HB; have HO103 := n0_; have HB := n1_; clear n0_ n1_; (try clear hb); (try clear hb2); (try clear hk); (try clear hi); (try clear ho0); obtain ⟨Ao5, co5, eo5⟩ := Kd.R_slice HO103.out; subst eo5) | ((with_reducible refine gate_callee (f := 31) rfl ?_); refine goesL_ (some 7) rfl rfl Try.func31 (by kernel_rfl) rfl #[.slice Ao5 t101.length co5] rfl (by (try simp only [List.map_toArray, List.map_cons, List.map_nil]); first | done | rfl | (simp only [List.length_drop, List.length_take]; rfl)) ?_; (with_reducible refine (dwarf_Text.calls _ _ t101 t104 t105 t106 _ ?side1 ?side2 A3.out).mono ?_); (case side1 => repeat (first | exact (Kd.R_reads' HO103.out).2.2 | (with_reducible refine Kd.C_alloc ?_ _) | (with_reducible refine Kd.C_drewN ?_ _) | (with_reducible refine Kd.C_drew ?_))); (case side2 => exact (Kd.R_reads' HO103.out).2.1); rintro e w6 ⟨rfl, hb⟩; refine ⟨_, rfl, ?_⟩; have n0_ := Aside0.mk (Kd.R_below (by (with_reducible repeat (first | apply Kd.R_alloc | apply Kd.R_drewN | apply Kd.R_drew)); exact HO103.out) hb); have n1_ := Aside0.mk (below_step (by repeat (first | (with_reducible first | exact HB.out | apply below_alloc | apply pw_below_drewN | apply below_drew1) | exact HB.out)) hb); clear HO103; clear HB; have HO103 := n0_; have HB := n1_; clear n0_ n1_; (try clear hb); (try clear hb2); (try clear hk); (try clear hi)))
  go_ret3
  exact ⟨by first | rfl | (simp [errW_none, errW_some] <;> rfl) | (simp [*, errW_none, errW_some] <;> rfl), by repeat (first | (with_reducible first | exact HB.out | apply below_alloc | apply pw_below_drewN | apply below_drew1) | exact HB.out)⟩

/-! ### laws_FnTextIs: function 5 -/
def laws_FnTextIs.l0 : Nat → List Int → ByteArray → Int → Bool → List Int → Int → Int → Option (Bool)
  | 0, _, _, _, _, _, _, _ => none
  | k + 1, x0, x3, x4, x5, x20, x21, x22 => if x22 < x21 then (if 0 ≤ x22 then (if x22 < (x20.length : Int) then (if (rd x20 x22) = 0 then (if x5 = true then (if x22 ≤ (x0.length : Int) then (if x3.toList = (strOfNums (x0.take (x22 : Int).toNat)).toList then (some (x4 == (wrap64 (x22 + 1)))) else (some false)) else (none)) else (some false)) else (laws_FnTextIs.l0 k x0 x3 x4 x5 x20 x21 (wrap64 (x22 + 1)))) else (none)) else (none)) else (some (!x5))
def laws_FnTextIs.f (k : Nat) (l0 : List Int) : Option (Bool) := if (l0.length : Int) > 2147483647 then (some true) else (if (l0.length : Int) > 65536 then (some true) else ((impl_Text.f l0).bind fun bt107 => (laws_FnTextIs.l0 k l0 bt107.1 bt107.2.1 bt107.2.2 l0 (l0.length : Int) 0)))
theorem laws_FnTextIs.mono_l : ∀ k, (∀ y0 y1 y2 y3 y4 y5 y6, LeO (laws_FnTextIs.l0 k y0 y1 y2 y3 y4 y5 y6) (laws_FnTextIs.l0 (k + 1) y0 y1 y2 y3 y4 y5 y6))
  | 0 => fun _ _ _ _ _ _ _ r h => by simp [laws_FnTextIs.l0] at h
  | k + 1 => by
    have ih0 := laws_FnTextIs.mono_l k
    · intro y0 y1 y2 y3 y4 y5 y6
      unfold laws_FnTextIs.l0
      repeat' first
      | (with_reducible exact ih0 _ _ _ _ _ _ _)
      | (with_reducible exact LeO.refl _)
      | (with_reducible exact LeO.none _)
      | (with_reducible refine LeO.ite ?_ ?_)
      | (with_reducible refine LeO.bind ?_ (fun _ => ?_))
      | exact ih0 _ _ _ _ _ _ _
      | exact LeO.none _
      | refine LeO.ite ?_ ?_
      | refine LeO.bind ?_ (fun _ => ?_)
theorem laws_FnTextIs.mono : ∀ a0 k, LeO (laws_FnTextIs.f k a0) (laws_FnTextIs.f (k + 1) a0) := by
  intro a0 k
  have ih0 := laws_FnTextIs.mono_l k
  unfold laws_FnTextIs.f
  repeat' first
      | (with_reducible exact ih0 _ _ _ _ _ _ _)
      | (with_reducible exact LeO.refl _)
      | (with_reducible exact LeO.none _)
      | (with_reducible refine LeO.ite ?_ ?_)
      | (with_reducible refine LeO.bind ?_ (fun _ => ?_))
      | exact ih0 _ _ _ _ _ _ _
      | exact LeO.none _
      | refine LeO.ite ?_ ?_
      | refine LeO.bind ?_ (fun _ => ?_)
set_option maxHeartbeats 8000000 in
set_option maxRecDepth 100000 in
theorem laws_FnTextIs.calls (k : Nat) (A0 : Option Addr) (c0 : Nat) (l0 : List Int) (r : Bool) (w : World) (hr0 : Kd.C (Kd.int .u8) w A0 l0.length l0) (hc0 : l0.length ≤ c0) (h : laws_FnTextIs.f k l0 = some r) :
    Calls Try.prog 5 #[.slice A0 l0.length c0] w fun e w' => e = .returned (.bool r) ∧ Below w.heap.size w w' := by
  have HR0 := Aside0.mk hr0
  have HC0 := Aside0.mk hc0
  clear hr0 hc0
  have HB := Aside0.mk (Below.refl w.heap.size w)
  have H : (if (l0.length : Int) > 2147483647 then (some true) else (if (l0.length : Int) > 65536 then (some true) else ((impl_Text.f l0).bind fun bt107 => (laws_FnTextIs.l0 k l0 bt107.1 bt107.2.1 bt107.2.2 l0 (l0.length : Int) 0)))) = some r := h
  clear h
  by_cases c2 : (l0.length : Int) > 2147483647
  · rw [if_pos c2] at H
    have c2b0 : decide (2147483647 < (l0.length : Int)) = true := decide_eq_true c2
    have c2b1 : decide (2147483647 < l0.length) = true := decide_eq_true (by omega)
    clear c2
    obtain rfl := Option.some.inj H
    go_enter Try.func5, Try.ntmps5
    go_wp2
    go_ret
    exact ⟨by first | rfl | (simp [errW_none, errW_some] <;> rfl) | (simp [*, errW_none, errW_some] <;> rfl), by repeat (first | (with_reducible first | exact HB.out | apply below_alloc | apply pw_below_drewN | apply below_drew1) | exact HB.out)⟩
  · rw [if_neg c2] at H
    have c2b0 : decide (2147483647 < (l0.length : Int)) = false := decide_eq_false c2
    have c2b1 : decide (2147483647 < l0.length) = false := decide_eq_false (by omega)
    clear c2
    by_cases c3 : (l0.length : Int) > 65536
    · rw [if_pos c3] at H
      have c3b0 : decide (65536 < (l0.length : Int)) = true := decide_eq_true c3
      have c3b1 : decide (65536 < l0.length) = true := decide_eq_true (by omega)
      clear c3
      obtain rfl := Option.some.inj H
      go_enter Try.func5, Try.ntmps5
      go_wp2
      go_ret
      exact ⟨by first | rfl | (simp [errW_none, errW_some] <;> rfl) | (simp [*, errW_none, errW_some] <;> rfl), by repeat (first | (with_reducible first | exact HB.out | apply below_alloc | apply pw_below_drewN | apply below_drew1) | exact HB.out)⟩
    · rw [if_neg c3] at H
      have c3b0 : decide (65536 < (l0.length : Int)) = false := decide_eq_false c3
      have c3b1 : decide (65536 < l0.length) = false := decide_eq_false (by omega)
      clear c3
      replace H := Option.bind_eq_some_iff.mp H
      obtain ⟨⟨t107, t108, t109⟩, A40, H⟩ := H
      replace H : (laws_FnTextIs.l0 k l0 t107 t108 t109 l0 (l0.length : Int) 0) = some r := H
      have A4 := Aside0.mk A40
      clear A40
      have H' := Aside0.mk H
      clear H
      go_enter Try.func5, Try.ntmps5
      go_wp2_with (first | ((with_reducible refine gate_callee (f := 19) rfl ?_); refine goesL_ (some 16) rfl rfl Try.func19 (by kernel_rfl) rfl #[.slice A0 l0.length c0] rfl (by (try simp only [List.map_toArray, List.map_cons, List.map_nil]); first | done | rfl | (simp only [List.length_drop, List.length_take]; rfl)) ?_; (with_reducible refine (impl_Text.calls _ _ l0 t107 t108 t109 _ ?side1 ?side2 A4.out).mono ?_); (case side1 => repeat (first | exact HR0.out | (with_reducible refine Kd.C_alloc ?_ _) | (with_reducible refine Kd.C_drewN ?_ _) | (with_reducible refine Kd.C_drew ?_))); (case side2 => exact HC0.out); rintro e w5 ⟨rfl, hb⟩; refine ⟨_, rfl, ?_⟩; have n0_ := Aside0.mk (below_step (by repeat (first | (with_reducible first | exact HB.out | apply below_alloc | apply pw_below_drewN | apply below_drew1) | exact HB.out)) hb); clear HB; have HB := n0_; clear n0_; (try clear hb); (try clear hb2); (try clear hk); (try clear hi)))
      go_loopg [22] k (fun kq v22 w' => ∃ (x22_1 : Int), v22 = .int .i64 x22_1 ∧ Aside0 (laws_FnTextIs.l0 kq l0 t107 t108 t109 l0 (l0.length : Int) x22_1 = some r) ∧ Aside0 (kq ≤ k) ∧ Aside0 (Below w.heap.size w w'))
      case atStart => exact ⟨(0), (by first | rfl | (simp; done) | (simp [*]; done)), H', ⟨Nat.le_refl _⟩, ⟨by repeat (first | (with_reducible first | exact HB.out | apply below_alloc | apply pw_below_drewN | apply below_drew1) | exact HB.out)⟩⟩
      case round =>
        clear H'
        try clear c1
        try clear c2
        try clear c2b0
        try clear c2b1
        try clear p2
        try clear c3
        try clear c3b0
        try clear c3b1
        try clear c5
        obtain ⟨x22_1, rfl, HA, HK1, HB⟩ := hrel
        cases gk with
        | zero => exact absurd HA.out (by simp [laws_FnTextIs.l0])
        | succ k1 =>
          have H := HA.out
          clear HA
          simp only [laws_FnTextIs.l0] at H
          by_cases c6 : x22_1 < (l0.length : Int)
          · rw [if_pos c6] at H
            have c6b0 : decide (x22_1 < (l0.length : Int)) = true := decide_eq_true c6
            clear c6
            by_cases c7 : 0 ≤ x22_1
            · rw [if_pos c7] at H
              have c7b0 : decide (0 ≤ x22_1) = true := decide_eq_true c7
              clear c7
              by_cases c8 : x22_1 < (l0.length : Int)
              · rw [if_pos c8] at H
                have c8b0 : decide (x22_1 < (l0.length : Int)) = true := decide_eq_true c8
                clear c8
                by_cases c9 : (rd l0 x22_1) = 0
                · rw [if_pos c9] at H
                  have c9b0 : ((rd l0 x22_1) == 0) = true := beq_iff_eq.mpr c9
                  have c9b1 : ((rd l0 x22_1) != 0) = false := bne_eq_false_iff_eq.mpr c9
                  clear c9
                  by_cases c10 : t109 = true
                  · subst c10
                    have H1 : (if x22_1 ≤ (l0.length : Int) then (if t107.toList = (strOfNums (l0.take (x22_1 : Int).toNat)).toList then (some (t108 == (wrap64 (x22_1 + 1)))) else (some false)) else (none)) = some r := by rw [if_pos rfl] at H; exact H
                    clear H
                    have H := H1
                    clear H1
                    have c11b0 := eq_true (of_decide_eq_true (by first | (with_reducible assumption) | assumption) : 0 ≤ x22_1)
                    by_cases c12 : x22_1 ≤ (l0.length : Int)
                    · rw [if_pos c12] at H
                      have c12b0 := eq_true c12
                      have c12b1 : decide (x22_1 ≤ (l0.length : Int)) = true := decide_eq_true c12
                      clear c12
                      by_cases c13 : t107.toList = (strOfNums (l0.take (x22_1 : Int).toNat)).toList
                      · rw [if_pos c13] at H
                        have c13b0 : (t107.toList == (strOfNums (l0.take (x22_1 : Int).toNat)).toList) = true := beq_iff_eq.mpr c13
                        have c13b1 : (t107.toList != (strOfNums (l0.take (x22_1 : Int).toNat)).toList) = false := bne_eq_false_iff_eq.mpr c13
                        clear c13
                        obtain rfl := Option.some.inj H
                        have p110 : 0 ≤ (x22_1 : Int) := of_decide_eq_true (by first | (with_reducible assumption) | assumption)
                        have q110 : x22_1 < (l0.length : Int) := of_decide_eq_true (by first | (with_reducible assumption) | assumption)
                        obtain ⟨ad110, e110, hx110_0⟩ := Kd.at_int HR0.out x22_1 p110 q110
                        cases e110
                        replace hx110_0 := (HB.out.cell (World.block_lt_of_cell? w _ hx110_0)).trans hx110_0
                        replace p110 := eq_true p110
                        replace q110 := eq_true q110
                        obtain ⟨i014, hi014, _, hsz14, _⟩ := info_parts info5
                        obtain ⟨hcut14, hA14, hC14⟩ := print_take_of (P := Try.prog) (Value.int .u8) 0 22 5 .i64 Try.underlying22 hi014 hsz14 (some ad110) c0 l0 x22_1 (of_decide_eq_true (by first | (with_reducible assumption) | assumption)) (of_decide_eq_true (by first | (with_reducible assumption) | assumption)) HC0.out
                        have HR111 := Aside0.mk (Kd.C_of_reads (h1 := fun _ => rfl) (hA14 _ (Kd.reads_of_C HR0.out)))
                        have HC111 := Aside0.mk hC14
                        clear hA14 hC14 hi014 hsz14
                        have hcv15 := Kd.C_string (P := Try.prog) (A := (some ad110)) (c := c0) Try.underlying22 Try.underlying5 Try.underlying9 (Kd.C_below HR111.out HB.out)
                        have hcv15b := hcv15
                        (try rw [List.length_take, Nat.min_eq_left (by have := of_decide_eq_true (by assumption : decide (x22_1 < (l0.length : Int)) = true); omega)] at hcv15b)
                        go_wp2
                        go_ret
                        exact ⟨by first | rfl | (simp [errW_none, errW_some] <;> rfl) | (simp [*, errW_none, errW_some] <;> rfl), by repeat (first | (with_reducible first | exact HB.out | apply below_alloc | apply pw_below_drewN | apply below_drew1) | exact HB.out)⟩
                      · rw [if_neg c13] at H
                        have c13b0 : (t107.toList == (strOfNums (l0.take (x22_1 : Int).toNat)).toList) = false := beq_eq_false_iff_ne.mpr c13
                        have c13b1 : (t107.toList != (strOfNums (l0.take (x22_1 : Int).toNat)).toList) = true := bne_iff_ne.mpr c13
                        obtain rfl := Option.some.inj H
                        have p110 : 0 ≤ (x22_1 : Int) := of_decide_eq_true (by first | (with_reducible assumption) | assumption)
                        have q110 : x22_1 < (l0.length : Int) := of_decide_eq_true (by first | (with_reducible assumption) | assumption)
                        obtain ⟨ad110, e110, hx110_0⟩ := Kd.at_int HR0.out x22_1 p110 q110
                        cases e110
                        replace hx110_0 := (HB.out.cell (World.block_lt_of_cell? w _ hx110_0)).trans hx110_0
                        replace p110 := eq_true p110
                        replace q110 := eq_true q110
                        obtain ⟨i016, hi016, _, hsz16, _⟩ := info_parts info5
                        obtain ⟨hcut16, hA16, hC16⟩ := print_take_of (P := Try.prog) (Value.int .u8) 0 22 5 .i64 Try.underlying22 hi016 hsz16 (some ad110) c0 l0 x22_1 (of_decide_eq_true (by first | (with_reducible assumption) | assumption)) (of_decide_eq_true (by first | (with_reducible assumption) | assumption)) HC0.out
                        have HR111 := Aside0.mk (Kd.C_of_reads (h1 := fun _ => rfl) (hA16 _ (Kd.reads_of_C HR0.out)))
                        have HC111 := Aside0.mk hC16
                        clear hA16 hC16 hi016 hsz16
                        have hcv17 := Kd.C_string (P := Try.prog) (A := (some ad110)) (c := c0) Try.underlying22 Try.underlying5 Try.underlying9 (Kd.C_below HR111.out HB.out)
                        have hcv17b := hcv17
                        (try rw [List.length_take, Nat.min_eq_left (by have := of_decide_eq_true (by assumption : decide (x22_1 < (l0.length : Int)) = true); omega)] at hcv17b)
                        go_wp2
                        go_ret
                        exact ⟨by first | rfl | (simp [errW_none, errW_some] <;> rfl) | (simp [*, errW_none, errW_some] <;> rfl), by repeat (first | (with_reducible first | exact HB.out | apply below_alloc | apply pw_below_drewN | apply below_drew1) | exact HB.out)⟩
                    · rw [if_neg c12] at H
                      exact absurd H (by simp)
                  · replace c10 := Bool.eq_false_iff.mpr c10
                    subst c10
                    have H1 : (some false) = some r := by rw [if_neg (show ¬ (false = true) by decide)] at H; exact H
                    clear H
                    have H := H1
                    clear H1
                    obtain rfl := Option.some.inj H
                    have p110 : 0 ≤ (x22_1 : Int) := of_decide_eq_true (by first | (with_reducible assumption) | assumption)
                    have q110 : x22_1 < (l0.length : Int) := of_decide_eq_true (by first | (with_reducible assumption) | assumption)
                    obtain ⟨ad110, e110, hx110_0⟩ := Kd.at_int HR0.out x22_1 p110 q110
                    cases e110
                    replace hx110_0 := (HB.out.cell (World.block_lt_of_cell? w _ hx110_0)).trans hx110_0
                    replace p110 := eq_true p110
                    replace q110 := eq_true q110
                    go_wp2
                    go_ret
                    exact ⟨by first | rfl | (simp [errW_none, errW_some] <;> rfl) | (simp [*, errW_none, errW_some] <;> rfl), by repeat (first | (with_reducible first | exact HB.out | apply below_alloc | apply pw_below_drewN | apply below_drew1) | exact HB.out)⟩
                · rw [if_neg c9] at H
                  have c9b0 : ((rd l0 x22_1) == 0) = false := beq_eq_false_iff_ne.mpr c9
                  have c9b1 : ((rd l0 x22_1) != 0) = true := bne_iff_ne.mpr c9
                  have H' := Aside0.mk H
                  clear H
                  have p110 : 0 ≤ (x22_1 : Int) := of_decide_eq_true (by first | (with_reducible assumption) | assumption)
                  have q110 : x22_1 < (l0.length : Int) := of_decide_eq_true (by first | (with_reducible assumption) | assumption)
                  obtain ⟨ad110, e110, hx110_0⟩ := Kd.at_int HR0.out x22_1 p110 q110
                  cases e110
                  replace hx110_0 := (HB.out.cell (World.block_lt_of_cell? w _ hx110_0)).trans hx110_0
                  replace p110 := eq_true p110
                  replace q110 := eq_true q110
                  go_wp2
                  go_roundg k1
                  case measure => have := HK1.out; omega
                  case rel => exact ⟨(wrap64 (x22_1 + 1)), (by first | rfl | (simp; done) | (simp [*]; done)), H', ⟨by have := HK1.out; omega⟩, ⟨by repeat (first | (with_reducible first | exact HB.out | apply below_alloc | apply pw_below_drewN | apply below_drew1) | exact HB.out)⟩⟩
              · rw [if_neg c8] at H
                exact absurd H (by simp)
            · rw [if_neg c7] at H
              exact absurd H (by simp)
          · rw [if_neg c6] at H
            have c6b0 : decide (x22_1 < (l0.length : Int)) = false := decide_eq_false c6
            clear c6
            obtain rfl := Option.some.inj H
            go_wp2
            go_ret
            exact ⟨by first | rfl | (simp [errW_none, errW_some] <;> rfl) | (simp [*, errW_none, errW_some] <;> rfl), by repeat (first | (with_reducible first | exact HB.out | apply below_alloc | apply pw_below_drewN | apply below_drew1) | exact HB.out)⟩

/-- THE ONE PURE STATEMENT of laws_FnTextIs: yours. -/
def laws_FnTextIs.Pure : Prop := ∀ (l0 : List Int), l0.length ≤ maxLen → l0.length * 1 ≤ 140737488351232 → (∀ x ∈ l0, (Lit.int .u8 x).wf = true) → ∃ k, laws_FnTextIs.f k l0 = some true
theorem laws_FnTextIs.walk (P : laws_FnTextIs.Pure) (a0 : Option Addr) (len0 cap0 : Nat) (z0 : List Int) (w : World) (w0 : (a0 = none ∧ len0 = 0 ∧ cap0 = 0 ∧ z0 = []) ∨ ∃ x, a0 = some x ∧ len0 ≤ cap0 ∧ cap0 ≤ maxLen ∧ z0.length = cap0 ∧ (∀ i, i < z0.length → w.cell? (x.add i) = some (.int .u8 (z0.getD i 0))) ∧ ∀ n ∈ z0, (Lit.int .u8 n).wf = true) (y0 : len0 * 1 ≤ 140737488351232) :
    Calls Try.prog 5 #[.slice a0 len0 cap0] w fun e w' => e = .returned (.bool true) ∧ Below w.heap.size w w' := by
  obtain ⟨l0, rfl, hr0, hm0, hw0, hc0⟩ := ReadsInt.ofRowC w0
  obtain ⟨k, h⟩ := P l0 hm0 y0 hw0
  refine (laws_FnTextIs.calls k _ _ l0 true w (Kd.C_of_reads (d := (0 : Int)) (h1 := fun _ => rfl) hr0) hc0 h).mono ?_
  rintro e w' ⟨rfl, hd⟩
  exact ⟨rfl, hd⟩

/-! ### spec_UnsignedOf: function 20 -/
def spec_UnsignedOf.l0 : Nat → Int → List Int → Int → Int → Option (Int × Int)
  | 0, _, _, _, _ => none
  | k + 1, x4, x7, x8, x9 => if x9 < x8 then (if 0 ≤ x9 then (if x9 < (x7.length : Int) then (if x9 < 9 then (if 0 ≤ (wrap64 (7 * x9)) then (if (rd x7 x9) < 128 then (some (IntKind.u64.wrap (x4 + (shl .u64 (IntKind.u64.wrap (Int.tmod (rd x7 x9) 128)) (wrap64 (7 * x9)))), wrap64 (x9 + 1))) else (spec_UnsignedOf.l0 k (IntKind.u64.wrap (x4 + (shl .u64 (IntKind.u64.wrap (Int.tmod (rd x7 x9) 128)) (wrap64 (7 * x9))))) x7 x8 (wrap64 (x9 + 1)))) else (none)) else (if (rd x7 x9) < 128 then (some (x4, wrap64 (x9 + 1))) else (spec_UnsignedOf.l0 k x4 x7 x8 (wrap64 (x9 + 1))))) else (none)) else (none)) else (some (0, 0))
def spec_UnsignedOf.f (k : Nat) (l0 : List Int) : Option (Int × Int) := spec_UnsignedOf.l0 k 0 l0 (l0.length : Int) 0
theorem spec_UnsignedOf.mono_l : ∀ k, (∀ y0 y1 y2 y3, LeO (spec_UnsignedOf.l0 k y0 y1 y2 y3) (spec_UnsignedOf.l0 (k + 1) y0 y1 y2 y3))
  | 0 => fun _ _ _ _ r h => by simp [spec_UnsignedOf.l0] at h
  | k + 1 => by
    have ih0 := spec_UnsignedOf.mono_l k
    · intro y0 y1 y2 y3
      unfold spec_UnsignedOf.l0
      repeat' first
      | (with_reducible exact ih0 _ _ _ _)
      | (with_reducible exact LeO.refl _)
      | (with_reducible exact LeO.none _)
      | (with_reducible refine LeO.ite ?_ ?_)
      | (with_reducible refine LeO.bind ?_ (fun _ => ?_))
      | exact ih0 _ _ _ _
      | exact LeO.none _
      | refine LeO.ite ?_ ?_
      | refine LeO.bind ?_ (fun _ => ?_)
theorem spec_UnsignedOf.mono : ∀ a0 k, LeO (spec_UnsignedOf.f k a0) (spec_UnsignedOf.f (k + 1) a0) := by
  intro a0 k
  have ih0 := spec_UnsignedOf.mono_l k
  unfold spec_UnsignedOf.f
  repeat' first
      | (with_reducible exact ih0 _ _ _ _)
      | (with_reducible exact LeO.refl _)
      | (with_reducible exact LeO.none _)
      | (with_reducible refine LeO.ite ?_ ?_)
      | (with_reducible refine LeO.bind ?_ (fun _ => ?_))
      | exact ih0 _ _ _ _
      | exact LeO.none _
      | refine LeO.ite ?_ ?_
      | refine LeO.bind ?_ (fun _ => ?_)
set_option maxHeartbeats 8000000 in
set_option maxRecDepth 100000 in
theorem spec_UnsignedOf.calls (k : Nat) (A0 : Option Addr) (c0 : Nat) (l0 : List Int) (r1 : Int) (r2 : Int) (w : World) (hr0 : Kd.C (Kd.int .u8) w A0 l0.length l0) (hc0 : l0.length ≤ c0) (h : spec_UnsignedOf.f k l0 = some (r1, r2)) :
    Calls Try.prog 20 #[.slice A0 l0.length c0] w fun e w' => e = .returned (.tuple #[.int .u64 r1, .int .i64 r2]) ∧ Drawn0 w w' := by
  have HR0 := Aside0.mk hr0
  have HC0 := Aside0.mk hc0
  clear hr0 hc0
  have H : (spec_UnsignedOf.l0 k 0 l0 (l0.length : Int) 0) = some (r1, r2) := h
  clear h
  have H' := Aside0.mk H
  clear H
  go_enter Try.func20, Try.ntmps20
  go_wp2
  go_loopg [4, 9] k (fun kq v4 v9 w' => ∃ (x4_1 : Int) (x9_1 : Int), v4 = .int .u64 x4_1 ∧ v9 = .int .i64 x9_1 ∧ Aside0 (spec_UnsignedOf.l0 kq x4_1 l0 (l0.length : Int) x9_1 = some (r1, r2)) ∧ Aside0 (kq ≤ k) ∧ Drawn0 w w')
  case atStart => exact ⟨(0), (0), (by first | rfl | (simp; done) | (simp [*]; done)), (by first | rfl | (simp; done) | (simp [*]; done)), H', ⟨Nat.le_refl _⟩, by repeat (first | exact Drawn0.refl _ | apply Drawn0.step)⟩
  case round =>
    clear H'
    obtain ⟨x4_1, x9_1, rfl, rfl, HA, HK1, ⟨m1, rfl⟩⟩ := hrel
    cases gk with
    | zero => exact absurd HA.out (by simp [spec_UnsignedOf.l0])
    | succ k1 =>
      have H := HA.out
      clear HA
      simp only [spec_UnsignedOf.l0] at H
      by_cases c2 : x9_1 < (l0.length : Int)
      · rw [if_pos c2] at H
        have c2b0 : decide (x9_1 < (l0.length : Int)) = true := decide_eq_true c2
        clear c2
        by_cases c3 : 0 ≤ x9_1
        · rw [if_pos c3] at H
          have c3b0 : decide (0 ≤ x9_1) = true := decide_eq_true c3
          clear c3
          by_cases c4 : x9_1 < (l0.length : Int)
          · rw [if_pos c4] at H
            have c4b0 : decide (x9_1 < (l0.length : Int)) = true := decide_eq_true c4
            clear c4
            by_cases c5 : x9_1 < 9
            · rw [if_pos c5] at H
              have c5b0 : decide (x9_1 < 9) = true := decide_eq_true c5
              clear c5
              obtain ⟨ji6, hji6⟩ : ∃ j_ : Int, (wrap64 (7 * x9_1)) = j_ := ⟨_, rfl⟩
              replace H : (if 0 ≤ (ji6) then (if (rd l0 x9_1) < 128 then (some (IntKind.u64.wrap (x4_1 + (shl .u64 (IntKind.u64.wrap (Int.tmod (rd l0 x9_1) 128)) (ji6))), wrap64 (x9_1 + 1))) else (spec_UnsignedOf.l0 k1 (IntKind.u64.wrap (x4_1 + (shl .u64 (IntKind.u64.wrap (Int.tmod (rd l0 x9_1) 128)) (ji6)))) l0 (l0.length : Int) (wrap64 (x9_1 + 1)))) else (none)) = some (r1, r2) := by first | (rw [hji6] at H; exact H) | (simp only [hji6] at H ⊢; exact H)
              have hji6w : (IntKind.i64.wrap (7 * x9_1)) = ji6 := (i64_w _).trans hji6
              by_cases c7 : 0 ≤ (ji6)
              · rw [if_pos c7] at H
                have c7b0 := eq_true c7
                have c7b1 : decide (0 ≤ (ji6)) = true := decide_eq_true c7
                clear c7
                obtain ⟨ji8, hji8⟩ : ∃ j_ : Int, (shl .u64 (IntKind.u64.wrap (Int.tmod (rd l0 x9_1) 128)) (ji6)) = j_ := ⟨_, rfl⟩
                replace H : (if (rd l0 x9_1) < 128 then (some (IntKind.u64.wrap (x4_1 + (ji8)), wrap64 (x9_1 + 1))) else (spec_UnsignedOf.l0 k1 (IntKind.u64.wrap (x4_1 + (ji8))) l0 (l0.length : Int) (wrap64 (x9_1 + 1)))) = some (r1, r2) := by first | (rw [hji8] at H; exact H) | (simp only [hji8] at H ⊢; exact H)
                have hji8_ : (IntKind.u64.wrap ((IntKind.u64.wrap (Int.tmod (rd l0 x9_1) 128)) * 2 ^ min (ji6).toNat 64)) = ji8 := hji8
                have hji8z : (ji6) ≤ 64 → (IntKind.u64.wrap ((IntKind.u64.wrap (Int.tmod (rd l0 x9_1) 128)) * 2 ^ (ji6).toNat)) = ji8 := shl_small hji8
                by_cases c9 : (rd l0 x9_1) < 128
                · rw [if_pos c9] at H
                  have c9b0 : decide ((rd l0 x9_1) < 128) = true := decide_eq_true c9
                  clear c9
                  simp only [Option.some.injEq, Prod.mk.injEq] at H
                  obtain ⟨rfl, rfl⟩ := H
                  have p112 : 0 ≤ (x9_1 : Int) := of_decide_eq_true (by first | (with_reducible assumption) | assumption)
                  have q112 : x9_1 < (l0.length : Int) := of_decide_eq_true (by first | (with_reducible assumption) | assumption)
                  obtain ⟨ad112, e112, hx112_0⟩ := Kd.at_int HR0.out x9_1 p112 q112
                  cases e112
                  replace p112 := eq_true p112
                  replace q112 := eq_true q112
                  go_wp2
                  go_ret2
                  exact ⟨by first | rfl | (simp; done) | (simp only [← hji6, ← hji8] <;> (first | rfl | simp)) | (simp [*]; done), by repeat (first | exact Drawn0.refl _ | apply Drawn0.step)⟩
                · rw [if_neg c9] at H
                  have c9b0 : decide ((rd l0 x9_1) < 128) = false := decide_eq_false c9
                  clear c9
                  have H' := Aside0.mk H
                  clear H
                  have p112 : 0 ≤ (x9_1 : Int) := of_decide_eq_true (by first | (with_reducible assumption) | assumption)
                  have q112 : x9_1 < (l0.length : Int) := of_decide_eq_true (by first | (with_reducible assumption) | assumption)
                  obtain ⟨ad112, e112, hx112_0⟩ := Kd.at_int HR0.out x9_1 p112 q112
                  cases e112
                  replace p112 := eq_true p112
                  replace q112 := eq_true q112
                  go_wp2
                  go_roundg k1
                  case measure => have := HK1.out; omega
                  case rel => exact ⟨(IntKind.u64.wrap (x4_1 + (ji8))), (wrap64 (x9_1 + 1)), (by first | rfl | (simp; done) | (simp only [← hji8] <;> (first | rfl | simp)) | (simp [*]; done)), (by first | rfl | (simp; done) | (simp [*]; done)), H', ⟨by have := HK1.out; omega⟩, by repeat (first | exact Drawn0.refl _ | apply Drawn0.step)⟩
              · rw [if_neg c7] at H
                exact absurd H (by simp)
            · rw [if_neg c5] at H
              have c5b0 : decide (x9_1 < 9) = false := decide_eq_false c5
              clear c5
              by_cases c10 : (rd l0 x9_1) < 128
              · rw [if_pos c10] at H
                have c10b0 : decide ((rd l0 x9_1) < 128) = true := decide_eq_true c10
                clear c10
                simp only [Option.some.injEq, Prod.mk.injEq] at H
                obtain ⟨rfl, rfl⟩ := H
                have p112 : 0 ≤ (x9_1 : Int) := of_decide_eq_true (by first | (with_reducible assumption) | assumption)
                have q112 : x9_1 < (l0.length : Int) := of_decide_eq_true (by first | (with_reducible assumption) | assumption)
                obtain ⟨ad112, e112, hx112_0⟩ := Kd.at_int HR0.out x9_1 p112 q112
                cases e112
                replace p112 := eq_true p112
                replace q112 := eq_true q112
                go_wp2
                go_ret2
                exact ⟨by first | rfl | (simp; done) | (simp [*]; done), by repeat (first | exact Drawn0.refl _ | apply Drawn0.step)⟩
              · rw [if_neg c10] at H
                have c10b0 : decide ((rd l0 x9_1) < 128) = false := decide_eq_false c10
                clear c10
                have H' := Aside0.mk H
                clear H
                have p112 : 0 ≤ (x9_1 : Int) := of_decide_eq_true (by first | (with_reducible assumption) | assumption)
                have q112 : x9_1 < (l0.length : Int) := of_decide_eq_true (by first | (with_reducible assumption) | assumption)
                obtain ⟨ad112, e112, hx112_0⟩ := Kd.at_int HR0.out x9_1 p112 q112
                cases e112
                replace p112 := eq_true p112
                replace q112 := eq_true q112
                go_wp2
                go_roundg k1
                case measure => have := HK1.out; omega
                case rel => exact ⟨(x4_1), (wrap64 (x9_1 + 1)), (by first | rfl | (simp; done) | (simp [*]; done)), (by first | rfl | (simp; done) | (simp [*]; done)), H', ⟨by have := HK1.out; omega⟩, by repeat (first | exact Drawn0.refl _ | apply Drawn0.step)⟩
          · rw [if_neg c4] at H
            exact absurd H (by simp)
        · rw [if_neg c3] at H
          exact absurd H (by simp)
      · rw [if_neg c2] at H
        have c2b0 : decide (x9_1 < (l0.length : Int)) = false := decide_eq_false c2
        clear c2
        simp only [Option.some.injEq, Prod.mk.injEq] at H
        obtain ⟨rfl, rfl⟩ := H
        go_wp2
        go_ret2
        exact ⟨by first | rfl | (simp; done) | (simp [*]; done), by repeat (first | exact Drawn0.refl _ | apply Drawn0.step)⟩

end Go.Proofs.Ytkgkdppjopilmaa.PNum
