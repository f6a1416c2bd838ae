-- Printed by a program of this session (mkprint.py over the kit's print.py)
import Derived.Test.YtkgkdppjopilmaaPNumx0
import Derived.Test.YtkgkdppjopilmaaPNumx3
namespace Go.Proofs.Ytkgkdppjopilmaa.PNum
open Go.RowKit Go.Proofs.YtkgkdppjopilmaaW.PrintWords Go.Proofs.YtkgkdppjopilmaaW.PrintLast Go.Proofs.YtkgkdppjopilmaaW.PrintMore Go.Proofs.Ytkgkdppjopilmaa.Given
attribute [local go_sem] max2_int min2_int max_two min_two max_three min_three max_four min_four   -- for this text's walks alone
set_option linter.unusedVariables false
set_option linter.unusedSimpArgs false

/-! ### spec_Unsigned: function 16 -/
mutual
def spec_Unsigned.l0 : Nat → Int → Int → List Int → Option (List Int)
  | 0, _, _, _ => none
  | k + 1, x0, x1, x5 => if x0 > 0 then (if x5.length < 140737488355328 then (spec_Unsigned.l0 k (IntKind.u64.wrap (Int.tdiv x0 128)) x1 (x5 ++ [(Int.tmod x0 128) % 256])) else (none)) else (spec_Unsigned.l1 k x1 x5)
def spec_Unsigned.l1 : Nat → Int → List Int → Option (List Int)
  | 0, _, _ => none
  | k + 1, x1, x5 => if x1 > 0 then (if x5.length < 140737488355328 then (spec_Unsigned.l1 k (wrap64 (x1 - 1)) (x5 ++ [0])) else (none)) else ((spec_carried.f k x5).bind fun t188 => (some t188))
end
def spec_Unsigned.f (k : Nat) (a0 : Int) (a1 : Int) : Option (List Int) := spec_Unsigned.l0 k (IntKind.u64.wrap (Int.tdiv a0 128)) a1 (([(Int.tmod a0 128) % 256] : List Int))
theorem spec_Unsigned.mono_l : ∀ k, (∀ y0 y1 y2, LeO (spec_Unsigned.l0 k y0 y1 y2) (spec_Unsigned.l0 (k + 1) y0 y1 y2)) ∧ (∀ y0 y1, LeO (spec_Unsigned.l1 k y0 y1) (spec_Unsigned.l1 (k + 1) y0 y1))
  | 0 => ⟨fun _ _ _ r h => by simp [spec_Unsigned.l0] at h, fun _ _ r h => by simp [spec_Unsigned.l1] at h⟩
  | k + 1 => by
    obtain ⟨ih0, ih1⟩ := spec_Unsigned.mono_l k
    refine ⟨?_, ?_⟩
    · intro y0 y1 y2
      unfold spec_Unsigned.l0
      repeat' first
      | (with_reducible exact ih0 _ _ _)
      | (with_reducible exact ih1 _ _)
      | (with_reducible exact spec_carried.mono _ _)
      | (with_reducible exact LeO.refl _)
      | (with_reducible exact LeO.none _)
      | (with_reducible refine LeO.ite ?_ ?_)
      | (with_reducible refine LeO.bind ?_ (fun _ => ?_))
      | exact ih0 _ _ _
      | exact ih1 _ _
      | exact spec_carried.mono _ _
      | exact LeO.none _
      | refine LeO.ite ?_ ?_
      | refine LeO.bind ?_ (fun _ => ?_)
    · intro y0 y1
      unfold spec_Unsigned.l1
      repeat' first
      | (with_reducible exact ih0 _ _ _)
      | (with_reducible exact ih1 _ _)
      | (with_reducible exact spec_carried.mono _ _)
      | (with_reducible exact LeO.refl _)
      | (with_reducible exact LeO.none _)
      | (with_reducible refine LeO.ite ?_ ?_)
      | (with_reducible refine LeO.bind ?_ (fun _ => ?_))
      | exact ih0 _ _ _
      | exact ih1 _ _
      | exact spec_carried.mono _ _
      | exact LeO.none _
      | refine LeO.ite ?_ ?_
      | refine LeO.bind ?_ (fun _ => ?_)
theorem spec_Unsigned.mono : ∀ a0 a1 k, LeO (spec_Unsigned.f k a0 a1) (spec_Unsigned.f (k + 1) a0 a1) := by
  intro a0 a1 k
  obtain ⟨ih0, ih1⟩ := spec_Unsigned.mono_l k
  unfold spec_Unsigned.f
  repeat' first
      | (with_reducible exact ih0 _ _ _)
      | (with_reducible exact ih1 _ _)
      | (with_reducible exact spec_carried.mono _ _)
      | (with_reducible exact LeO.refl _)
      | (with_reducible exact LeO.none _)
      | (with_reducible refine LeO.ite ?_ ?_)
      | (with_reducible refine LeO.bind ?_ (fun _ => ?_))
      | exact ih0 _ _ _
      | exact ih1 _ _
      | exact spec_carried.mono _ _
      | exact LeO.none _
      | refine LeO.ite ?_ ?_
      | refine LeO.bind ?_ (fun _ => ?_)
set_option maxHeartbeats 8000000 in
set_option maxRecDepth 100000 in
theorem spec_Unsigned.calls (k : Nat) (a0 : Int) (a1 : Int) (r : List Int) (w : World) (h : spec_Unsigned.f k a0 a1 = some r) :
    Calls Try.prog 16 #[.int .u64 a0, .int .i64 a1] w fun e w' => ∃ v0_ : Value, e = .returned (v0_) ∧ Kd.R (Kd.int .u8) 5 w' w.heap.size (fun _ => True) v0_ r ∧ Below w.heap.size w w' := by
  have HB := Aside0.mk (Below.refl w.heap.size w)
  have H : (spec_Unsigned.l0 k (IntKind.u64.wrap (Int.tdiv a0 128)) a1 (([(Int.tmod a0 128) % 256] : List Int))) = some r := h
  clear h
  obtain ⟨y179, hy179⟩ : ∃ y_ : List Int, y_ = (([(Int.tmod a0 128) % 256] : List Int)) := ⟨_, rfl⟩
  replace H : (spec_Unsigned.l0 k (IntKind.u64.wrap (Int.tdiv a0 128)) a1 y179) = some r := by first | (rw [hy179]; with_reducible exact H) | (have H2_ := (Option.bind_some _ _).symm.trans H; rw [hy179]; with_reducible exact H2_) | (have H2_ := (Option.bind_some _ _).symm.trans H; with_reducible exact H2_) | with_reducible exact H | (rw [hy179]; exact H) | exact H
  have Ny179 := Aside0.mk hy179
  clear hy179
  have H' := Aside0.mk H
  clear H
  go_enter Try.func16, Try.ntmps16
  go_wp2_with (first | ((with_reducible refine gate_dst (N := 9) rfl ?_); refine Kd.R_lit (Kd.int .u8) _ 5 ?hg (N := 9) ?hd (xs := ([(Int.tmod a0 128) % 256] : List Int)) (inner := [.int .u8 ((Int.tmod a0 128) % 256)]) (ok := fun _ => True) (okp := fun _ => True) ?hr ?hp (fun _ hk => hk) trivial (Below.refl _ _) (Nat.le_refl _) (by simp) ?_; (case hd => rfl); (case hg => rfl); (case hr => first | (go_simp; done) | (go_simp; rfl)); (case hp => exact (Reps.one (show Kd.M (Kd.int .u8) _ _ _ ((Int.tmod a0 128) % 256) [.int .u8 ((Int.tmod a0 128) % 256)] from rfl) (Reps.none _ _))); intro v180 w3 ho4 hb hg_ hnew_; clear hg_ hnew_; (first | rw [← Ny179.out] at ho4 | (simp only [Int.reduceToNat] at ho4; rw [← Ny179.out] at ho4)); have n0_ := Aside0.mk (Kd.R_lower ho4 (below_size (by repeat (first | (with_reducible first | exact HB.out | apply below_alloc | apply pw_below_drewN | apply below_drew1) | exact HB.out)))); have n1_ := Aside0.mk (below_step (by repeat (first | (with_reducible first | exact HB.out | apply below_alloc | apply pw_below_drewN | apply below_drew1) | exact HB.out)) hb); clear HB; have HO181 := n0_; have HB := n1_; clear n0_ n1_; clear hb ho4))
  go_loopg [0, 5] k (fun kq v0 v5 w' => ∃ (x0_1 : Int) (x5_1 : List Int), v0 = .int .u64 x0_1 ∧ Aside0 (spec_Unsigned.l0 kq x0_1 a1 x5_1 = some r) ∧ Aside0 (kq ≤ k) ∧ Aside0 (Kd.R (Kd.int .u8) 5 w' w.heap.size (fun _ => True) v5 x5_1) ∧ Aside0 (Below w.heap.size w w'))
  case atStart => exact ⟨(IntKind.u64.wrap (Int.tdiv a0 128)), (y179), (by first | rfl | (simp; done) | (simp [*]; done)), H', ⟨Nat.le_refl _⟩, ⟨by (with_reducible repeat (first | apply Kd.R_alloc | apply Kd.R_drewN | apply Kd.R_drew)); exact HO181.out⟩, ⟨by repeat (first | (with_reducible first | exact HB.out | apply below_alloc | apply pw_below_drewN | apply below_drew1) | exact HB.out)⟩⟩
  case round =>
    clear H'
    try clear c1
    try clear p2
    obtain ⟨x0_1, x5_1, rfl, HA, HK1, HO_5, HB⟩ := hrel
    cases gk with
    | zero => exact absurd HA.out (by simp [spec_Unsigned.l0])
    | succ k1 =>
      have H := HA.out
      clear HA
      simp only [spec_Unsigned.l0] at H
      by_cases c5 : x0_1 > 0
      · rw [if_pos c5] at H
        have c5b0 : decide (0 < x0_1) = true := decide_eq_true c5
        clear c5
        by_cases c6 : x5_1.length < 140737488355328
        · rw [if_pos c6] at H
          have LMc6 := Aside0.mk c6
          clear c6
          obtain ⟨y182, hy182⟩ : ∃ y_ : List Int, y_ = (x5_1 ++ [(Int.tmod x0_1 128) % 256]) := ⟨_, rfl⟩
          replace H : (spec_Unsigned.l0 k1 (IntKind.u64.wrap (Int.tdiv x0_1 128)) a1 y182) = some r := by first | (rw [hy182]; with_reducible exact H) | (have H2_ := (Option.bind_some _ _).symm.trans H; rw [hy182]; with_reducible exact H2_) | (have H2_ := (Option.bind_some _ _).symm.trans H; with_reducible exact H2_) | with_reducible exact H | (rw [hy182]; exact H) | exact H
          have Ny182 := Aside0.mk hy182
          clear hy182
          have H' := Aside0.mk H
          clear H
          go_wp2_with (first | ((with_reducible refine gate_builtin (b := .append) (xs := #[.tmp 16, .tmp 20]) rfl ?_); at_builtin; refine Kd.R_append (Kd.int .u8) (w0 := w) w.heap.size rfl (.tmp 16) (.tmp 20) 22 5 (.int .u8 0) 1 rfl Try.underlying22 info5 rfl (by decide) (by omega) u5 x5_1 ((Int.tmod x0_1 128) % 256) [.int .u8 ((Int.tmod x0_1 128) % 256)] (fun _ => True) (fun _ => False) rfl rfl ?aP (fun _ hk => hk.elim) ?aF ?aO ?aB ?aS ?aL ?_; (case aP => exact rfl); (case aB => exact (by repeat (first | (with_reducible first | exact HB.out | apply below_alloc | apply pw_below_drewN | apply below_drew1) | exact HB.out))); (case aF => exact (fun _ _ => trivial)); (case aO => exact (by (with_reducible repeat (first | apply Kd.R_alloc | apply Kd.R_drewN | apply Kd.R_drew)); exact HO_5.out)); (case aS => exact (below_size (by repeat (first | (with_reducible first | exact HB.out | apply below_alloc | apply pw_below_drewN | apply below_drew1) | exact HB.out)))); (case aL => have := LMc6.out; omega); intro v183 w7 ho hb hg hat; rw [← Ny182.out] at ho; have n0_ := Aside0.mk (hb); have n1_ := Aside0.mk (ho); clear HB; clear HO_5; have HB := n0_; have HO184 := n1_; clear n0_ n1_; clear ho hb hg hat))
          go_roundg k1
          case measure => have := HK1.out; omega
          case rel => exact ⟨(IntKind.u64.wrap (Int.tdiv x0_1 128)), (y182), (by first | rfl | (simp; done) | (simp [*]; done)), H', ⟨by have := HK1.out; omega⟩, ⟨by (with_reducible repeat (first | apply Kd.R_alloc | apply Kd.R_drewN | apply Kd.R_drew)); exact HO184.out⟩, ⟨by repeat (first | (with_reducible first | exact HB.out | apply below_alloc | apply pw_below_drewN | apply below_drew1) | exact HB.out)⟩⟩
        · rw [if_neg c6] at H
          exact absurd H (by simp)
      · rw [if_neg c5] at H
        have c5b0 : decide (0 < x0_1) = false := decide_eq_false c5
        clear c5
        have H' := Aside0.mk H
        clear H
        go_wp2
        go_loopg [1, 5] k1 (fun kq v1 v5 w' => ∃ (x1_2 : Int) (x5_2 : List Int), v1 = .int .i64 x1_2 ∧ Aside0 (spec_Unsigned.l1 kq x1_2 x5_2 = some r) ∧ Aside0 (kq ≤ k1) ∧ Aside0 (Kd.R (Kd.int .u8) 5 w' w.heap.size (fun _ => True) v5 x5_2) ∧ Aside0 (Below w.heap.size w w'))
        case atStart => exact ⟨(a1), (x5_1), (by first | rfl | (simp; done) | (simp [*]; done)), H', ⟨Nat.le_refl _⟩, ⟨by (with_reducible repeat (first | apply Kd.R_alloc | apply Kd.R_drewN | apply Kd.R_drew)); exact HO_5.out⟩, ⟨by repeat (first | (with_reducible first | exact HB.out | apply below_alloc | apply pw_below_drewN | apply below_drew1) | exact HB.out)⟩⟩
        case round =>
          clear H'
          try clear c1
          try clear p2
          try clear c5
          try clear c5b0
          try clear c6
          try clear p2
          obtain ⟨x1_2, x5_2, rfl, HA, HK2, HO_5, HB⟩ := hrel
          cases gk with
          | zero => exact absurd HA.out (by simp [spec_Unsigned.l1])
          | succ k2 =>
            have H := HA.out
            clear HA
            simp only [spec_Unsigned.l1] at H
            by_cases c8 : x1_2 > 0
            · rw [if_pos c8] at H
              have c8b0 : decide (0 < x1_2) = true := decide_eq_true c8
              clear c8
              by_cases c9 : x5_2.length < 140737488355328
              · rw [if_pos c9] at H
                have LMc9 := Aside0.mk c9
                clear c9
                obtain ⟨y185, hy185⟩ : ∃ y_ : List Int, y_ = (x5_2 ++ [0]) := ⟨_, rfl⟩
                replace H : (spec_Unsigned.l1 k2 (wrap64 (x1_2 - 1)) y185) = some r := by first | (rw [hy185]; with_reducible exact H) | (have H2_ := (Option.bind_some _ _).symm.trans H; rw [hy185]; with_reducible exact H2_) | (have H2_ := (Option.bind_some _ _).symm.trans H; with_reducible exact H2_) | with_reducible exact H | (rw [hy185]; exact H) | exact H
                have Ny185 := Aside0.mk hy185
                clear hy185
                have H' := Aside0.mk H
                clear H
                go_wp2_with (first | ((with_reducible refine gate_builtin (b := .append) (xs := #[.tmp 26, .tmp 27]) rfl ?_); at_builtin; refine Kd.R_append (Kd.int .u8) (w0 := w) w.heap.size rfl (.tmp 26) (.tmp 27) 22 5 (.int .u8 0) 1 rfl Try.underlying22 info5 rfl (by decide) (by omega) u5 x5_2 0 [.int .u8 0] (fun _ => True) (fun _ => False) rfl rfl ?aP (fun _ hk => hk.elim) ?aF ?aO ?aB ?aS ?aL ?_; (case aP => exact rfl); (case aB => exact (by repeat (first | (with_reducible first | exact HB.out | apply below_alloc | apply pw_below_drewN | apply below_drew1) | exact HB.out))); (case aF => exact (fun _ _ => trivial)); (case aO => exact (by (with_reducible repeat (first | apply Kd.R_alloc | apply Kd.R_drewN | apply Kd.R_drew)); exact HO_5.out)); (case aS => exact (below_size (by repeat (first | (with_reducible first | exact HB.out | apply below_alloc | apply pw_below_drewN | apply below_drew1) | exact HB.out)))); (case aL => have := LMc9.out; omega); intro v186 w10 ho hb hg hat; rw [← Ny185.out] at ho; have n0_ := Aside0.mk (hb); have n1_ := Aside0.mk (ho); clear HB; clear HO_5; have HB := n0_; have HO187 := n1_; clear n0_ n1_; clear ho hb hg hat))
                go_roundg k2
                case measure => have := HK1.out; have := HK2.out; omega
                case rel => exact ⟨(wrap64 (x1_2 - 1)), (y185), (by first | rfl | (simp; done) | (simp [*]; done)), H', ⟨by have := HK1.out; have := HK2.out; omega⟩, ⟨by (with_reducible repeat (first | apply Kd.R_alloc | apply Kd.R_drewN | apply Kd.R_drew)); exact HO187.out⟩, ⟨by repeat (first | (with_reducible first | exact HB.out | apply below_alloc | apply pw_below_drewN | apply below_drew1) | exact HB.out)⟩⟩
              · rw [if_neg c9] at H
                exact absurd H (by simp)
            · rw [if_neg c8] at H
              have c8b0 : decide (0 < x1_2) = false := decide_eq_false c8
              clear c8
              replace H := Option.bind_eq_some_iff.mp H
              obtain ⟨t188, A110, H⟩ := H
              replace H : (some t188) = some r := H
              have A11 := Aside0.mk A110
              clear A110
              obtain rfl := Option.some.inj H
              obtain ⟨Ao12, co12, eo12⟩ := Kd.R_slice HO_5.out
              subst eo12
              go_wp2_with (first | ((with_reducible refine gate_callee (f := 29) rfl ?_); refine goesL_ (some 30) rfl rfl Try.func29 (by kernel_rfl) rfl #[.slice Ao12 x5_2.length co12] rfl (by (try simp only [List.map_toArray, List.map_cons, List.map_nil]); first | done | rfl | (simp only [List.length_drop, List.length_take]; rfl)) ?_; (with_reducible refine (spec_carried.calls k2 (fun k_ => some k_ = (.slice Ao12 x5_2.length co12 : Value).ownBlock) (.slice Ao12 x5_2.length co12) x5_2 t188 w _ ?side1 ?side2 A11.out).mono ?_); (case side1 => repeat (first | (with_reducible first | exact HB.out | apply below_alloc | apply pw_below_drewN | apply below_drew1) | exact HB.out)); (case side2 => exact Kd.R_tight rfl HO_5.out); rintro e w13 ⟨v189, rfl, ho0, hb, hkp⟩; refine ⟨_, rfl, ?_⟩; have n0_ := Aside0.mk (Kd.R_mono (ok' := fun k_ => True) ho0 (fun k_ hk_ => trivial)); have n1_ := Aside0.mk (hb); clear HB; clear HO_5; have HO190 := n0_; have HB := n1_; clear n0_ n1_; (try clear hb); (try clear hkp); (try clear ho0)))
              go_ret
              exact ⟨_, by first | rfl | (simp [errW_none, errW_some] <;> rfl) | (simp [*, errW_none, errW_some] <;> rfl), by (with_reducible repeat (first | apply Kd.R_alloc | apply Kd.R_drewN | apply Kd.R_drew)); exact HO190.out, by repeat (first | (with_reducible first | exact HB.out | apply below_alloc | apply pw_below_drewN | apply below_drew1) | exact HB.out)⟩

/-! ### spec_Signed: function 18 -/
mutual
def spec_Signed.j1 : Nat → Int → Int → List Int → Option (List Int)
  | 0, _, _, _ => none
  | k + 1, x0, x1, x5 => spec_Signed.l1 k x0 x1 x5
def spec_Signed.l1 : Nat → Int → Int → List Int → Option (List Int)
  | 0, _, _, _ => none
  | k + 1, x0, x1, x5 => if x1 > 0 then (if x5.length < 140737488355328 then (spec_Signed.l1 k x0 (wrap64 (x1 - 1)) (x5 ++ [(Go.bits .and .i64 x0 127) % 256])) else (none)) else ((spec_carried.f k x5).bind fun t210 => (some t210))
def spec_Signed.l0 : Nat → Int → Int → List Int → Int → Option (List Int)
  | 0, _, _, _, _ => none
  | k + 1, x0, x1, x5, x6 => if x0 = 0 then (if ((x0 == (-1)) != (decide (x6 ≥ 64))) = true then (if x5.length < 140737488355328 then ((some (x5 ++ [(Go.bits .and .i64 x0 127) % 256] : List Int)).bind fun y195 => (if 0 ≤ (wrap64 ((y195.length : Int) - 1)) then (if (wrap64 ((y195.length : Int) - 1)) < (y195.length : Int) then (spec_Signed.l0 k (x0 / 128) x1 y195 (rd y195 (wrap64 ((y195.length : Int) - 1)))) else (none)) else (none))) else (none)) else (spec_Signed.j1 k x0 x1 x5)) else (if x0 = (-1) then (if ((x0 == (-1)) != (decide (x6 ≥ 64))) = true then (if x5.length < 140737488355328 then ((some (x5 ++ [(Go.bits .and .i64 x0 127) % 256] : List Int)).bind fun y199 => (if 0 ≤ (wrap64 ((y199.length : Int) - 1)) then (if (wrap64 ((y199.length : Int) - 1)) < (y199.length : Int) then (spec_Signed.l0 k (x0 / 128) x1 y199 (rd y199 (wrap64 ((y199.length : Int) - 1)))) else (none)) else (none))) else (none)) else (spec_Signed.j1 k x0 x1 x5)) else (if x5.length < 140737488355328 then ((some (x5 ++ [(Go.bits .and .i64 x0 127) % 256] : List Int)).bind fun y203 => (if 0 ≤ (wrap64 ((y203.length : Int) - 1)) then (if (wrap64 ((y203.length : Int) - 1)) < (y203.length : Int) then (spec_Signed.l0 k (x0 / 128) x1 y203 (rd y203 (wrap64 ((y203.length : Int) - 1)))) else (none)) else (none))) else (none)))
end
def spec_Signed.f (k : Nat) (a0 : Int) (a1 : Int) : Option (List Int) := (some (([(Go.bits .and .i64 a0 127) % 256] : List Int) : List Int)).bind fun y191 => (if 0 < (y191.length : Int) then (spec_Signed.l0 k (a0 / 128) a1 y191 (rd y191 0)) else (none))
theorem spec_Signed.mono_l : ∀ k, (∀ y0 y1 y2, LeO (spec_Signed.j1 k y0 y1 y2) (spec_Signed.j1 (k + 1) y0 y1 y2)) ∧ (∀ y0 y1 y2, LeO (spec_Signed.l1 k y0 y1 y2) (spec_Signed.l1 (k + 1) y0 y1 y2)) ∧ (∀ y0 y1 y2 y3, LeO (spec_Signed.l0 k y0 y1 y2 y3) (spec_Signed.l0 (k + 1) y0 y1 y2 y3))
  | 0 => ⟨fun _ _ _ r h => by simp [spec_Signed.j1] at h, fun _ _ _ r h => by simp [spec_Signed.l1] at h, fun _ _ _ _ r h => by simp [spec_Signed.l0] at h⟩
  | k + 1 => by
    obtain ⟨ih0, ih1, ih2⟩ := spec_Signed.mono_l k
    refine ⟨?_, ?_, ?_⟩
    · intro y0 y1 y2
      unfold spec_Signed.j1
      repeat' first
      | (with_reducible exact ih0 _ _ _)
      | (with_reducible exact ih1 _ _ _)
      | (with_reducible exact ih2 _ _ _ _)
      | (with_reducible exact spec_carried.mono _ _)
      | (with_reducible exact LeO.refl _)
      | (with_reducible exact LeO.none _)
      | (with_reducible refine LeO.ite ?_ ?_)
      | (with_reducible refine LeO.bind ?_ (fun _ => ?_))
      | exact ih0 _ _ _
      | exact ih1 _ _ _
      | exact ih2 _ _ _ _
      | exact spec_carried.mono _ _
      | exact LeO.none _
      | refine LeO.ite ?_ ?_
      | refine LeO.bind ?_ (fun _ => ?_)
    · intro y0 y1 y2
      unfold spec_Signed.l1
      repeat' first
      | (with_reducible exact ih0 _ _ _)
      | (with_reducible exact ih1 _ _ _)
      | (with_reducible exact ih2 _ _ _ _)
      | (with_reducible exact spec_carried.mono _ _)
      | (with_reducible exact LeO.refl _)
      | (with_reducible exact LeO.none _)
      | (with_reducible refine LeO.ite ?_ ?_)
      | (with_reducible refine LeO.bind ?_ (fun _ => ?_))
      | exact ih0 _ _ _
      | exact ih1 _ _ _
      | exact ih2 _ _ _ _
      | exact spec_carried.mono _ _
      | exact LeO.none _
      | refine LeO.ite ?_ ?_
      | refine LeO.bind ?_ (fun _ => ?_)
    · intro y0 y1 y2 y3
      unfold spec_Signed.l0
      repeat' first
      | (with_reducible exact ih0 _ _ _)
      | (with_reducible exact ih1 _ _ _)
      | (with_reducible exact ih2 _ _ _ _)
      | (with_reducible exact spec_carried.mono _ _)
      | (with_reducible exact LeO.refl _)
      | (with_reducible exact LeO.none _)
      | (with_reducible refine LeO.ite ?_ ?_)
      | (with_reducible refine LeO.bind ?_ (fun _ => ?_))
      | exact ih0 _ _ _
      | exact ih1 _ _ _
      | exact ih2 _ _ _ _
      | exact spec_carried.mono _ _
      | exact LeO.none _
      | refine LeO.ite ?_ ?_
      | refine LeO.bind ?_ (fun _ => ?_)
theorem spec_Signed.mono : ∀ a0 a1 k, LeO (spec_Signed.f k a0 a1) (spec_Signed.f (k + 1) a0 a1) := by
  intro a0 a1 k
  obtain ⟨ih0, ih1, ih2⟩ := spec_Signed.mono_l k
  unfold spec_Signed.f
  repeat' first
      | (with_reducible exact ih0 _ _ _)
      | (with_reducible exact ih1 _ _ _)
      | (with_reducible exact ih2 _ _ _ _)
      | (with_reducible exact spec_carried.mono _ _)
      | (with_reducible exact LeO.refl _)
      | (with_reducible exact LeO.none _)
      | (with_reducible refine LeO.ite ?_ ?_)
      | (with_reducible refine LeO.bind ?_ (fun _ => ?_))
      | exact ih0 _ _ _
      | exact ih1 _ _ _
      | exact ih2 _ _ _ _
      | exact spec_carried.mono _ _
      | exact LeO.none _
      | refine LeO.ite ?_ ?_
      | refine LeO.bind ?_ (fun _ => ?_)
set_option maxHeartbeats 8000000 in
set_option maxRecDepth 100000 in
theorem spec_Signed.calls (k : Nat) (a0 : Int) (a1 : Int) (r : List Int) (w : World) (h : spec_Signed.f k a0 a1 = some r) :
    Calls Try.prog 18 #[.int .i64 a0, .int .i64 a1] w fun e w' => ∃ v0_ : Value, e = .returned (v0_) ∧ Kd.R (Kd.int .u8) 5 w' w.heap.size (fun _ => True) v0_ r ∧ Below w.heap.size w w' := by
  have HB := Aside0.mk (Below.refl w.heap.size w)
  have H : ((some (([(Go.bits .and .i64 a0 127) % 256] : List Int) : List Int)).bind fun y191 => (if 0 < (y191.length : Int) then (spec_Signed.l0 k (a0 / 128) a1 y191 (rd y191 0)) else (none))) = some r := h
  clear h
  obtain ⟨y191, hy191⟩ : ∃ y_ : List Int, y_ = (([(Go.bits .and .i64 a0 127) % 256] : List Int)) := ⟨_, rfl⟩
  replace H : (if 0 < (y191.length : Int) then (spec_Signed.l0 k (a0 / 128) a1 y191 (rd y191 0)) else (none)) = some r := by first | (rw [hy191]; with_reducible exact H) | (have H2_ := (Option.bind_some _ _).symm.trans H; rw [hy191]; with_reducible exact H2_) | (have H2_ := (Option.bind_some _ _).symm.trans H; with_reducible exact H2_) | with_reducible exact H | (rw [hy191]; exact H) | exact H
  have Ny191 := Aside0.mk hy191
  clear hy191
  by_cases c3 : 0 < (y191.length : Int)
  · rw [if_pos c3] at H
    have c3b0 : decide (0 < (y191.length : Int)) = true := decide_eq_true c3
    have c3b1 : decide (0 < y191.length) = true := decide_eq_true (by omega)
    clear c3
    have HC4 := Aside0.mk H
    clear H
    go_enter Try.func18, Try.ntmps18
    go_upto_block 0 with (first | ((with_reducible refine gate_dst (N := 10) rfl ?_); refine Kd.R_lit (Kd.int .u8) _ 5 ?hg (N := 10) ?hd (xs := ([(Go.bits .and .i64 a0 127) % 256] : List Int)) (inner := [.int .u8 ((Go.bits .and .i64 a0 127) % 256)]) (ok := fun _ => True) (okp := fun _ => True) ?hr ?hp (fun _ hk => hk) trivial (Below.refl _ _) (Nat.le_refl _) (by simp) ?_; (case hd => rfl); (case hg => rfl); (case hr => first | (go_simp; done) | (go_simp; rfl)); (case hp => exact (Reps.one (show Kd.M (Kd.int .u8) _ _ _ ((Go.bits .and .i64 a0 127) % 256) [.int .u8 ((Go.bits .and .i64 a0 127) % 256)] from rfl) (Reps.none _ _))); intro v192 w5 ho6 hb hg_ hnew_; clear hg_ hnew_; (first | rw [← Ny191.out] at ho6 | (simp only [Int.reduceToNat] at ho6; rw [← Ny191.out] at ho6)); have n0_ := Aside0.mk (Kd.R_lower ho6 (below_size (by repeat (first | (with_reducible first | exact HB.out | apply below_alloc | apply pw_below_drewN | apply below_drew1) | exact HB.out)))); have n1_ := Aside0.mk (below_step (by repeat (first | (with_reducible first | exact HB.out | apply below_alloc | apply pw_below_drewN | apply below_drew1) | exact HB.out)) hb); clear HB; have HO193 := n0_; have HB := n1_; clear n0_ n1_; clear hb ho6; obtain ⟨Ao7, co7, eo7⟩ := Kd.R_slice HO193.out; subst eo7; have p194 : 0 ≤ (0 : Int) := (by omega); have q194 : 0 < (y191.length : Int) := of_decide_eq_true (by first | (with_reducible assumption) | assumption); obtain ⟨ad194, e194, hx194_0⟩ := Kd.at_int (Kd.R_reads' HO193.out).2.2 0 p194 q194; cases e194; have qi194 : (0 < y191.length) = True := eq_true (by omega); (try rw [show ((0 : Int)).toNat = 0 from rfl] at hx194_0); (try rw [Addr.add_zero'] at hx194_0); replace p194 := eq_true p194; replace q194 := eq_true q194))
    (try simp only [Act.put, List.setIfInBounds_toArray, List.set_cons_zero, List.set_cons_succ])
    go_cut [0, 5] (fun v0 v5 wc => ∃ (kq : Nat) (x0_3 : Int) (x5_3 : List Int), v0 = .int .i64 x0_3 ∧ Aside0 (spec_Signed.j1 kq x0_3 a1 x5_3 = some r) ∧ Aside0 (kq ≤ k) ∧ Aside0 (Kd.R (Kd.int .u8) 5 wc w.heap.size (fun _ => True) v5 x5_3) ∧ Aside0 (Below w.heap.size w wc))
    case first =>
      have H := HC4.out
      clear HC4
      have H' := Aside0.mk H
      clear H
      go_wp2
      go_loopg [0, 5, 6] k (fun kq v0 v5 v6 w' => ∃ (x0_1 : Int) (x5_1 : List Int) (x6_1 : Int), v0 = .int .i64 x0_1 ∧ v6 = .int .u8 x6_1 ∧ Aside0 (spec_Signed.l0 kq x0_1 a1 x5_1 x6_1 = some r) ∧ Aside0 (kq ≤ k) ∧ Aside0 (Kd.R (Kd.int .u8) 5 w' w.heap.size (fun _ => True) v5 x5_1) ∧ Aside0 (Below w.heap.size w w'))
      case atStart => exact ⟨(a0 / 128), (y191), (rd y191 0), (by first | rfl | (simp; done) | (simp [*]; done)), (by first | rfl | (simp; done) | (simp [*]; done)), H', ⟨Nat.le_refl _⟩, ⟨by (with_reducible repeat (first | apply Kd.R_alloc | apply Kd.R_drewN | apply Kd.R_drew)); exact HO193.out⟩, ⟨by repeat (first | (with_reducible first | exact HB.out | apply below_alloc | apply pw_below_drewN | apply below_drew1) | exact HB.out)⟩⟩
      case round =>
        clear H'
        try clear c1
        try clear p1
        try clear q1
        try clear hx1
        try clear qi1
        try clear p2
        try clear c3
        try clear c3b0
        try clear c3b1
        try clear hx194_0
        try clear p194
        try clear q194
        obtain ⟨x0_1, x5_1, x6_1, rfl, rfl, HA, HK1, HO_5, HB⟩ := hrel
        cases gk with
        | zero => exact absurd HA.out (by simp [spec_Signed.l0])
        | succ k1 =>
          have H := HA.out
          clear HA
          simp only [spec_Signed.l0] at H
          by_cases c8 : x0_1 = 0
          · rw [if_pos c8] at H
            have c8b0 : (x0_1 == 0) = true := beq_iff_eq.mpr c8
            have c8b1 : (x0_1 != 0) = false := bne_eq_false_iff_eq.mpr c8
            clear c8
            (first | rw [c8b0] | (simp only [i64_w, i32_w]; rw [c8b0]) | skip)
            by_cases c9 : ((x0_1 == (-1)) != (decide (x6_1 ≥ 64))) = true
            · rw [if_pos c9] at H
              have c9b0 : ((x0_1 == (-1)) != (decide (x6_1 ≥ 64))) = true := c9
              (try (have c9b1 : decide ((x0_1 == (-1)) = (decide (x6_1 ≥ 64))) = false := by simpa using c9))
              (try (have c9b2 : ((x0_1 == (-1)) == (decide (x6_1 ≥ 64))) = false := by simpa using c9))
              (try (have c9b3 : ¬ ((x0_1 == (-1)) = (decide (x6_1 ≥ 64))) := by simpa using c9))
              clear c9
              by_cases c10 : x5_1.length < 140737488355328
              · rw [if_pos c10] at H
                have LMc10 := Aside0.mk c10
                clear c10
                obtain ⟨y195, hy195⟩ : ∃ y_ : List Int, y_ = (x5_1 ++ [(Go.bits .and .i64 x0_1 127) % 256]) := ⟨_, rfl⟩
                replace H : (if 0 ≤ (wrap64 ((y195.length : Int) - 1)) then (if (wrap64 ((y195.length : Int) - 1)) < (y195.length : Int) then (spec_Signed.l0 k1 (x0_1 / 128) a1 y195 (rd y195 (wrap64 ((y195.length : Int) - 1)))) else (none)) else (none)) = some r := by first | (rw [hy195]; with_reducible exact H) | (have H2_ := (Option.bind_some _ _).symm.trans H; rw [hy195]; with_reducible exact H2_) | (have H2_ := (Option.bind_some _ _).symm.trans H; with_reducible exact H2_) | with_reducible exact H | (rw [hy195]; exact H) | exact H
                have Ny195 := Aside0.mk hy195
                clear hy195
                obtain ⟨ji11, hji11⟩ : ∃ j_ : Int, (wrap64 ((y195.length : Int) - 1)) = j_ := ⟨_, rfl⟩
                replace H : (if 0 ≤ (ji11) then (if (ji11) < (y195.length : Int) then (spec_Signed.l0 k1 (x0_1 / 128) a1 y195 (rd y195 (ji11))) else (none)) else (none)) = some r := by first | (rw [hji11] at H; exact H) | (simp only [hji11] at H ⊢; exact H)
                have hji11w : (IntKind.i64.wrap ((y195.length : Int) - 1)) = ji11 := (i64_w _).trans hji11
                by_cases c12 : 0 ≤ (ji11)
                · rw [if_pos c12] at H
                  have c12b0 : decide (0 ≤ (ji11)) = true := decide_eq_true c12
                  clear c12
                  by_cases c13 : (ji11) < (y195.length : Int)
                  · rw [if_pos c13] at H
                    have c13b0 : decide ((ji11) < (y195.length : Int)) = true := decide_eq_true c13
                    clear c13
                    have H' := Aside0.mk H
                    clear H
                    go_wp2_with (first | ((with_reducible refine gate_builtin (b := .append) (xs := #[.tmp 35, .tmp 39]) rfl ?_); at_builtin; refine Kd.R_append (Kd.int .u8) (w0 := w) w.heap.size rfl (.tmp 35) (.tmp 39) 22 5 (.int .u8 0) 1 rfl Try.underlying22 info5 rfl (by decide) (by omega) u5 x5_1 ((Go.bits .and .i64 x0_1 127) % 256) [.int .u8 ((Go.bits .and .i64 x0_1 127) % 256)] (fun _ => True) (fun _ => False) rfl rfl ?aP (fun _ hk => hk.elim) ?aF ?aO ?aB ?aS ?aL ?_; (case aP => exact rfl); (case aB => exact (by repeat (first | (with_reducible first | exact HB.out | apply below_alloc | apply pw_below_drewN | apply below_drew1) | exact HB.out))); (case aF => exact (fun _ _ => trivial)); (case aO => exact (by (with_reducible repeat (first | apply Kd.R_alloc | apply Kd.R_drewN | apply Kd.R_drew)); exact HO_5.out)); (case aS => exact (below_size (by repeat (first | (with_reducible first | exact HB.out | apply below_alloc | apply pw_below_drewN | apply below_drew1) | exact HB.out)))); (case aL => have := LMc10.out; omega); intro v196 w14 ho hb hg hat; rw [← Ny195.out] at ho; have n0_ := Aside0.mk (hb); have n1_ := Aside0.mk (ho); clear HB; clear HO_5; have HB := n0_; have HO197 := n1_; clear n0_ n1_; clear ho hb hg hat; obtain ⟨Ao15, co15, eo15⟩ := Kd.R_slice HO197.out; subst eo15; have p198 : 0 ≤ ((ji11) : Int) := of_decide_eq_true (by first | (with_reducible assumption) | assumption); have q198 : (ji11) < (y195.length : Int) := of_decide_eq_true (by first | (with_reducible assumption) | assumption); obtain ⟨ad198, e198, hx198_0⟩ := Kd.at_int (Kd.R_reads' HO197.out).2.2 (ji11) p198 q198; cases e198; replace p198 := eq_true p198; replace q198 := eq_true q198))
                    go_roundg k1
                    case measure => have := HK1.out; omega
                    case rel => exact ⟨(x0_1 / 128), (y195), (rd y195 (ji11)), (by first | rfl | (simp; done) | (simp [*]; done)), (by first | rfl | (simp; done) | (simp only [← hji11] <;> (first | rfl | simp)) | (simp [*]; done)), H', ⟨by have := HK1.out; omega⟩, ⟨by (with_reducible repeat (first | apply Kd.R_alloc | apply Kd.R_drewN | apply Kd.R_drew)); exact HO197.out⟩, ⟨by repeat (first | (with_reducible first | exact HB.out | apply below_alloc | apply pw_below_drewN | apply below_drew1) | exact HB.out)⟩⟩
                  · rw [if_neg c13] at H
                    exact absurd H (by simp)
                · rw [if_neg c12] at H
                  exact absurd H (by simp)
              · rw [if_neg c10] at H
                exact absurd H (by simp)
            · rw [if_neg c9] at H
              have c9b0 : ((x0_1 == (-1)) != (decide (x6_1 ≥ 64))) = false := by simpa using c9
              (try (have c9b1 : decide ((x0_1 == (-1)) = (decide (x6_1 ≥ 64))) = true := by simpa using c9))
              (try (have c9b2 : ((x0_1 == (-1)) == (decide (x6_1 ≥ 64))) = true := by simpa using c9))
              clear c9
              have H' := Aside0.mk H
              clear H
              go_wp2
              go_meet
              case rel => exact ⟨_, (x0_1), (x5_1), (by first | rfl | (simp; done) | (simp [*]; done)), H', ⟨by have := HK1.out; first | omega | exact Nat.le_refl _⟩, ⟨by (with_reducible repeat (first | apply Kd.R_alloc | apply Kd.R_drewN | apply Kd.R_drew)); exact HO_5.out⟩, ⟨by repeat (first | (with_reducible first | exact HB.out | apply below_alloc | apply pw_below_drewN | apply below_drew1) | exact HB.out)⟩⟩
          · rw [if_neg c8] at H
            have c8b0 : (x0_1 == 0) = false := beq_eq_false_iff_ne.mpr c8
            have c8b1 : (x0_1 != 0) = true := bne_iff_ne.mpr c8
            (first | rw [c8b0] | (simp only [i64_w, i32_w]; rw [c8b0]) | skip)
            by_cases c16 : x0_1 = (-1)
            · rw [if_pos c16] at H
              have c16b0 : (x0_1 == (-1)) = true := beq_iff_eq.mpr c16
              have c16b1 : (x0_1 != (-1)) = false := bne_eq_false_iff_eq.mpr c16
              clear c16
              by_cases c17 : ((x0_1 == (-1)) != (decide (x6_1 ≥ 64))) = true
              · rw [if_pos c17] at H
                have c17b0 : ((x0_1 == (-1)) != (decide (x6_1 ≥ 64))) = true := c17
                (try (have c17ztrue : decide (64 ≤ x6_1) = true := by have z_ := c17b0; rw [c16b0] at z_; simpa using z_))
                (try (have c17zfalse : decide (64 ≤ x6_1) = false := by have z_ := c17b0; rw [c16b0] at z_; simpa using z_))
                (try (have c17b1 : decide ((x0_1 == (-1)) = (decide (x6_1 ≥ 64))) = false := by simpa using c17))
                (try (have c17b2 : ((x0_1 == (-1)) == (decide (x6_1 ≥ 64))) = false := by simpa using c17))
                (try (have c17b3 : ¬ ((x0_1 == (-1)) = (decide (x6_1 ≥ 64))) := by simpa using c17))
                clear c17
                by_cases c18 : x5_1.length < 140737488355328
                · rw [if_pos c18] at H
                  have LMc18 := Aside0.mk c18
                  clear c18
                  obtain ⟨y199, hy199⟩ : ∃ y_ : List Int, y_ = (x5_1 ++ [(Go.bits .and .i64 x0_1 127) % 256]) := ⟨_, rfl⟩
                  replace H : (if 0 ≤ (wrap64 ((y199.length : Int) - 1)) then (if (wrap64 ((y199.length : Int) - 1)) < (y199.length : Int) then (spec_Signed.l0 k1 (x0_1 / 128) a1 y199 (rd y199 (wrap64 ((y199.length : Int) - 1)))) else (none)) else (none)) = some r := by first | (rw [hy199]; with_reducible exact H) | (have H2_ := (Option.bind_some _ _).symm.trans H; rw [hy199]; with_reducible exact H2_) | (have H2_ := (Option.bind_some _ _).symm.trans H; with_reducible exact H2_) | with_reducible exact H | (rw [hy199]; exact H) | exact H
                  have Ny199 := Aside0.mk hy199
                  clear hy199
                  obtain ⟨ji19, hji19⟩ : ∃ j_ : Int, (wrap64 ((y199.length : Int) - 1)) = j_ := ⟨_, rfl⟩
                  replace H : (if 0 ≤ (ji19) then (if (ji19) < (y199.length : Int) then (spec_Signed.l0 k1 (x0_1 / 128) a1 y199 (rd y199 (ji19))) else (none)) else (none)) = some r := by first | (rw [hji19] at H; exact H) | (simp only [hji19] at H ⊢; exact H)
                  have hji19w : (IntKind.i64.wrap ((y199.length : Int) - 1)) = ji19 := (i64_w _).trans hji19
                  by_cases c20 : 0 ≤ (ji19)
                  · rw [if_pos c20] at H
                    have c20b0 : decide (0 ≤ (ji19)) = true := decide_eq_true c20
                    clear c20
                    by_cases c21 : (ji19) < (y199.length : Int)
                    · rw [if_pos c21] at H
                      have c21b0 : decide ((ji19) < (y199.length : Int)) = true := decide_eq_true c21
                      clear c21
                      have H' := Aside0.mk H
                      clear H
                      go_wp2_with (first | ((with_reducible refine gate_builtin (b := .append) (xs := #[.tmp 35, .tmp 39]) rfl ?_); at_builtin; refine Kd.R_append (Kd.int .u8) (w0 := w) w.heap.size rfl (.tmp 35) (.tmp 39) 22 5 (.int .u8 0) 1 rfl Try.underlying22 info5 rfl (by decide) (by omega) u5 x5_1 ((Go.bits .and .i64 x0_1 127) % 256) [.int .u8 ((Go.bits .and .i64 x0_1 127) % 256)] (fun _ => True) (fun _ => False) rfl rfl ?aP (fun _ hk => hk.elim) ?aF ?aO ?aB ?aS ?aL ?_; (case aP => exact rfl); (case aB => exact (by repeat (first | (with_reducible first | exact HB.out | apply below_alloc | apply pw_below_drewN | apply below_drew1) | exact HB.out))); (case aF => exact (fun _ _ => trivial)); (case aO => exact (by (with_reducible repeat (first | apply Kd.R_alloc | apply Kd.R_drewN | apply Kd.R_drew)); exact HO_5.out)); (case aS => exact (below_size (by repeat (first | (with_reducible first | exact HB.out | apply below_alloc | apply pw_below_drewN | apply below_drew1) | exact HB.out)))); (case aL => have := LMc18.out; omega); intro v200 w22 ho hb hg hat; rw [← Ny199.out] at ho; have n0_ := Aside0.mk (hb); have n1_ := Aside0.mk (ho); clear HB; clear HO_5; have HB := n0_; have HO201 := n1_; clear n0_ n1_; clear ho hb hg hat; obtain ⟨Ao23, co23, eo23⟩ := Kd.R_slice HO201.out; subst eo23; have p202 : 0 ≤ ((ji19) : Int) := of_decide_eq_true (by first | (with_reducible assumption) | assumption); have q202 : (ji19) < (y199.length : Int) := of_decide_eq_true (by first | (with_reducible assumption) | assumption); obtain ⟨ad202, e202, hx202_0⟩ := Kd.at_int (Kd.R_reads' HO201.out).2.2 (ji19) p202 q202; cases e202; replace p202 := eq_true p202; replace q202 := eq_true q202))
                      go_roundg k1
                      case measure => have := HK1.out; omega
                      case rel => exact ⟨(x0_1 / 128), (y199), (rd y199 (ji19)), (by first | rfl | (simp; done) | (simp [*]; done)), (by first | rfl | (simp; done) | (simp only [← hji19] <;> (first | rfl | simp)) | (simp [*]; done)), H', ⟨by have := HK1.out; omega⟩, ⟨by (with_reducible repeat (first | apply Kd.R_alloc | apply Kd.R_drewN | apply Kd.R_drew)); exact HO201.out⟩, ⟨by repeat (first | (with_reducible first | exact HB.out | apply below_alloc | apply pw_below_drewN | apply below_drew1) | exact HB.out)⟩⟩
                    · rw [if_neg c21] at H
                      exact absurd H (by simp)
                  · rw [if_neg c20] at H
                    exact absurd H (by simp)
                · rw [if_neg c18] at H
                  exact absurd H (by simp)
              · rw [if_neg c17] at H
                have c17b0 : ((x0_1 == (-1)) != (decide (x6_1 ≥ 64))) = false := by simpa using c17
                (try (have c17ztrue : decide (64 ≤ x6_1) = true := by have z_ := c17b0; rw [c16b0] at z_; simpa using z_))
                (try (have c17zfalse : decide (64 ≤ x6_1) = false := by have z_ := c17b0; rw [c16b0] at z_; simpa using z_))
                (try (have c17b1 : decide ((x0_1 == (-1)) = (decide (x6_1 ≥ 64))) = true := by simpa using c17))
                (try (have c17b2 : ((x0_1 == (-1)) == (decide (x6_1 ≥ 64))) = true := by simpa using c17))
                clear c17
                have H' := Aside0.mk H
                clear H
                go_wp2
                go_meet
                case rel => exact ⟨_, (x0_1), (x5_1), (by first | rfl | (simp; done) | (simp [*]; done)), H', ⟨by have := HK1.out; first | omega | exact Nat.le_refl _⟩, ⟨by (with_reducible repeat (first | apply Kd.R_alloc | apply Kd.R_drewN | apply Kd.R_drew)); exact HO_5.out⟩, ⟨by repeat (first | (with_reducible first | exact HB.out | apply below_alloc | apply pw_below_drewN | apply below_drew1) | exact HB.out)⟩⟩
            · rw [if_neg c16] at H
              have c16b0 : (x0_1 == (-1)) = false := beq_eq_false_iff_ne.mpr c16
              have c16b1 : (x0_1 != (-1)) = true := bne_iff_ne.mpr c16
              by_cases c24 : x5_1.length < 140737488355328
              · rw [if_pos c24] at H
                have LMc24 := Aside0.mk c24
                clear c24
                obtain ⟨y203, hy203⟩ : ∃ y_ : List Int, y_ = (x5_1 ++ [(Go.bits .and .i64 x0_1 127) % 256]) := ⟨_, rfl⟩
                replace H : (if 0 ≤ (wrap64 ((y203.length : Int) - 1)) then (if (wrap64 ((y203.length : Int) - 1)) < (y203.length : Int) then (spec_Signed.l0 k1 (x0_1 / 128) a1 y203 (rd y203 (wrap64 ((y203.length : Int) - 1)))) else (none)) else (none)) = some r := by first | (rw [hy203]; with_reducible exact H) | (have H2_ := (Option.bind_some _ _).symm.trans H; rw [hy203]; with_reducible exact H2_) | (have H2_ := (Option.bind_some _ _).symm.trans H; with_reducible exact H2_) | with_reducible exact H | (rw [hy203]; exact H) | exact H
                have Ny203 := Aside0.mk hy203
                clear hy203
                obtain ⟨ji25, hji25⟩ : ∃ j_ : Int, (wrap64 ((y203.length : Int) - 1)) = j_ := ⟨_, rfl⟩
                replace H : (if 0 ≤ (ji25) then (if (ji25) < (y203.length : Int) then (spec_Signed.l0 k1 (x0_1 / 128) a1 y203 (rd y203 (ji25))) else (none)) else (none)) = some r := by first | (rw [hji25] at H; exact H) | (simp only [hji25] at H ⊢; exact H)
                have hji25w : (IntKind.i64.wrap ((y203.length : Int) - 1)) = ji25 := (i64_w _).trans hji25
                by_cases c26 : 0 ≤ (ji25)
                · rw [if_pos c26] at H
                  have c26b0 : decide (0 ≤ (ji25)) = true := decide_eq_true c26
                  clear c26
                  by_cases c27 : (ji25) < (y203.length : Int)
                  · rw [if_pos c27] at H
                    have c27b0 : decide ((ji25) < (y203.length : Int)) = true := decide_eq_true c27
                    clear c27
                    have H' := Aside0.mk H
                    clear H
                    go_wp2_with (first | ((with_reducible refine gate_builtin (b := .append) (xs := #[.tmp 35, .tmp 39]) rfl ?_); at_builtin; refine Kd.R_append (Kd.int .u8) (w0 := w) w.heap.size rfl (.tmp 35) (.tmp 39) 22 5 (.int .u8 0) 1 rfl Try.underlying22 info5 rfl (by decide) (by omega) u5 x5_1 ((Go.bits .and .i64 x0_1 127) % 256) [.int .u8 ((Go.bits .and .i64 x0_1 127) % 256)] (fun _ => True) (fun _ => False) rfl rfl ?aP (fun _ hk => hk.elim) ?aF ?aO ?aB ?aS ?aL ?_; (case aP => exact rfl); (case aB => exact (by repeat (first | (with_reducible first | exact HB.out | apply below_alloc | apply pw_below_drewN | apply below_drew1) | exact HB.out))); (case aF => exact (fun _ _ => trivial)); (case aO => exact (by (with_reducible repeat (first | apply Kd.R_alloc | apply Kd.R_drewN | apply Kd.R_drew)); exact HO_5.out)); (case aS => exact (below_size (by repeat (first | (with_reducible first | exact HB.out | apply below_alloc | apply pw_below_drewN | apply below_drew1) | exact HB.out)))); (case aL => have := LMc24.out; omega); intro v204 w28 ho hb hg hat; rw [← Ny203.out] at ho; have n0_ := Aside0.mk (hb); have n1_ := Aside0.mk (ho); clear HB; clear HO_5; have HB := n0_; have HO205 := n1_; clear n0_ n1_; clear ho hb hg hat; obtain ⟨Ao29, co29, eo29⟩ := Kd.R_slice HO205.out; subst eo29; have p206 : 0 ≤ ((ji25) : Int) := of_decide_eq_true (by first | (with_reducible assumption) | assumption); have q206 : (ji25) < (y203.length : Int) := of_decide_eq_true (by first | (with_reducible assumption) | assumption); obtain ⟨ad206, e206, hx206_0⟩ := Kd.at_int (Kd.R_reads' HO205.out).2.2 (ji25) p206 q206; cases e206; replace p206 := eq_true p206; replace q206 := eq_true q206))
                    go_roundg k1
                    case measure => have := HK1.out; omega
                    case rel => exact ⟨(x0_1 / 128), (y203), (rd y203 (ji25)), (by first | rfl | (simp; done) | (simp [*]; done)), (by first | rfl | (simp; done) | (simp only [← hji25] <;> (first | rfl | simp)) | (simp [*]; done)), H', ⟨by have := HK1.out; omega⟩, ⟨by (with_reducible repeat (first | apply Kd.R_alloc | apply Kd.R_drewN | apply Kd.R_drew)); exact HO205.out⟩, ⟨by repeat (first | (with_reducible first | exact HB.out | apply below_alloc | apply pw_below_drewN | apply below_drew1) | exact HB.out)⟩⟩
                  · rw [if_neg c27] at H
                    exact absurd H (by simp)
                · rw [if_neg c26] at H
                  exact absurd H (by simp)
              · rw [if_neg c24] at H
                exact absurd H (by simp)
    case rest =>
      clear HC4
      try clear c1
      try clear p1
      try clear q1
      try clear hx1
      try clear qi1
      try clear c2
      try clear p2
      try clear q2
      try clear hx2
      try clear c3
      try clear c3b0
      try clear c3b1
      try clear p6
      try clear c8
      try clear c8b0
      try clear c8b1
      try clear c9
      try clear c9b0
      try clear c9b1
      try clear c9b2
      try clear c10
      try clear c12
      try clear c12b0
      try clear c13
      try clear c13b0
      try clear c16
      try clear c16b0
      try clear c16b1
      try clear c17
      try clear c17b0
      try clear c17b1
      try clear c17b2
      try clear c18
      try clear p19
      try clear q19
      try clear hx19
      try clear qi19
      try clear c20
      try clear c20b0
      try clear p20
      try clear q20
      try clear hx20
      try clear c21
      try clear c21b0
      try clear c24
      try clear c26
      try clear c26b0
      try clear c27
      try clear c27b0
      try clear hx194_0
      try clear hx198_0
      try clear hx202_0
      try clear hx206_0
      try clear p1
      try clear p194
      try clear p198
      try clear p2
      try clear p202
      try clear p206
      try clear q1
      try clear q194
      try clear q198
      try clear q202
      try clear q206
      obtain ⟨kq, x0_3, x5_3, rfl, HA, HJ3, HO_5, HB⟩ := hcut
      cases kq with
      | zero => exact absurd HA.out (by simp [spec_Signed.j1])
      | succ kj3 =>
        have H := HA.out
        clear HA
        simp only [spec_Signed.j1] at H
        have H' := Aside0.mk H
        clear H
        go_wp2
        go_loopg [1, 5] kj3 (fun kq v1 v5 w' => ∃ (x1_2 : Int) (x5_2 : List Int), v1 = .int .i64 x1_2 ∧ Aside0 (spec_Signed.l1 kq x0_3 x1_2 x5_2 = some r) ∧ Aside0 (kq ≤ kj3) ∧ Aside0 (Kd.R (Kd.int .u8) 5 w' w.heap.size (fun _ => True) v5 x5_2) ∧ Aside0 (Below w.heap.size w w'))
        case atStart => exact ⟨(a1), (x5_3), (by first | rfl | (simp; done) | (simp [*]; done)), H', ⟨Nat.le_refl _⟩, ⟨by (with_reducible repeat (first | apply Kd.R_alloc | apply Kd.R_drewN | apply Kd.R_drew)); exact HO_5.out⟩, ⟨by repeat (first | (with_reducible first | exact HB.out | apply below_alloc | apply pw_below_drewN | apply below_drew1) | exact HB.out)⟩⟩
        case round =>
          clear H'
          try clear c1
          try clear p1
          try clear q1
          try clear hx1
          try clear qi1
          try clear c2
          try clear p2
          try clear q2
          try clear hx2
          try clear c3
          try clear c3b0
          try clear c3b1
          try clear p6
          try clear c8
          try clear c8b0
          try clear c8b1
          try clear c9
          try clear c9b0
          try clear c9b1
          try clear c9b2
          try clear c10
          try clear c12
          try clear c12b0
          try clear c13
          try clear c13b0
          try clear c16
          try clear c16b0
          try clear c16b1
          try clear c17
          try clear c17b0
          try clear c17b1
          try clear c17b2
          try clear c18
          try clear p19
          try clear q19
          try clear hx19
          try clear qi19
          try clear c20
          try clear c20b0
          try clear p20
          try clear q20
          try clear hx20
          try clear c21
          try clear c21b0
          try clear c24
          try clear c26
          try clear c26b0
          try clear c27
          try clear c27b0
          try clear hx194_0
          try clear hx198_0
          try clear hx202_0
          try clear hx206_0
          try clear p1
          try clear p19
          try clear p194
          try clear p198
          try clear p2
          try clear p20
          try clear p202
          try clear p206
          try clear p6
          try clear q1
          try clear q19
          try clear q194
          try clear q198
          try clear q2
          try clear q20
          try clear q202
          try clear q206
          obtain ⟨x1_2, x5_2, rfl, HA, HK2, HO_5, HB⟩ := hrel
          cases gk with
          | zero => exact absurd HA.out (by simp [spec_Signed.l1])
          | succ k2 =>
            have H := HA.out
            clear HA
            simp only [spec_Signed.l1] at H
            by_cases c30 : x1_2 > 0
            · rw [if_pos c30] at H
              have c30b0 : decide (0 < x1_2) = true := decide_eq_true c30
              clear c30
              by_cases c31 : x5_2.length < 140737488355328
              · rw [if_pos c31] at H
                have LMc31 := Aside0.mk c31
                clear c31
                obtain ⟨y207, hy207⟩ : ∃ y_ : List Int, y_ = (x5_2 ++ [(Go.bits .and .i64 x0_3 127) % 256]) := ⟨_, rfl⟩
                replace H : (spec_Signed.l1 k2 x0_3 (wrap64 (x1_2 - 1)) y207) = some r := by first | (rw [hy207]; with_reducible exact H) | (have H2_ := (Option.bind_some _ _).symm.trans H; rw [hy207]; with_reducible exact H2_) | (have H2_ := (Option.bind_some _ _).symm.trans H; with_reducible exact H2_) | with_reducible exact H | (rw [hy207]; exact H) | exact H
                have Ny207 := Aside0.mk hy207
                clear hy207
                have H' := Aside0.mk H
                clear H
                go_wp2_with (first | ((with_reducible refine gate_builtin (b := .append) (xs := #[.tmp 47, .tmp 51]) rfl ?_); at_builtin; refine Kd.R_append (Kd.int .u8) (w0 := w) w.heap.size rfl (.tmp 47) (.tmp 51) 22 5 (.int .u8 0) 1 rfl Try.underlying22 info5 rfl (by decide) (by omega) u5 x5_2 ((Go.bits .and .i64 x0_3 127) % 256) [.int .u8 ((Go.bits .and .i64 x0_3 127) % 256)] (fun _ => True) (fun _ => False) rfl rfl ?aP (fun _ hk => hk.elim) ?aF ?aO ?aB ?aS ?aL ?_; (case aP => exact rfl); (case aB => exact (by repeat (first | (with_reducible first | exact HB.out | apply below_alloc | apply pw_below_drewN | apply below_drew1) | exact HB.out))); (case aF => exact (fun _ _ => trivial)); (case aO => exact (by (with_reducible repeat (first | apply Kd.R_alloc | apply Kd.R_drewN | apply Kd.R_drew)); exact HO_5.out)); (case aS => exact (below_size (by repeat (first | (with_reducible first | exact HB.out | apply below_alloc | apply pw_below_drewN | apply below_drew1) | exact HB.out)))); (case aL => have := LMc31.out; omega); intro v208 w32 ho hb hg hat; rw [← Ny207.out] at ho; have n0_ := Aside0.mk (hb); have n1_ := Aside0.mk (ho); clear HB; clear HO_5; have HB := n0_; have HO209 := n1_; clear n0_ n1_; clear ho hb hg hat))
                go_roundg k2
                case measure => have := HJ3.out; have := HK2.out; omega
                case rel => exact ⟨(wrap64 (x1_2 - 1)), (y207), (by first | rfl | (simp; done) | (simp [*]; done)), H', ⟨by have := HJ3.out; have := HK2.out; omega⟩, ⟨by (with_reducible repeat (first | apply Kd.R_alloc | apply Kd.R_drewN | apply Kd.R_drew)); exact HO209.out⟩, ⟨by repeat (first | (with_reducible first | exact HB.out | apply below_alloc | apply pw_below_drewN | apply below_drew1) | exact HB.out)⟩⟩
              · rw [if_neg c31] at H
                exact absurd H (by simp)
            · rw [if_neg c30] at H
              have c30b0 : decide (0 < x1_2) = false := decide_eq_false c30
              clear c30
              replace H := Option.bind_eq_some_iff.mp H
              obtain ⟨t210, A330, H⟩ := H
              replace H : (some t210) = some r := H
              have A33 := Aside0.mk A330
              clear A330
              obtain rfl := Option.some.inj H
              obtain ⟨Ao34, co34, eo34⟩ := Kd.R_slice HO_5.out
              subst eo34
              go_wp2_with (first | ((with_reducible refine gate_callee (f := 29) rfl ?_); refine goesL_ (some 54) rfl rfl Try.func29 (by kernel_rfl) rfl #[.slice Ao34 x5_2.length co34] rfl (by (try simp only [List.map_toArray, List.map_cons, List.map_nil]); first | done | rfl | (simp only [List.length_drop, List.length_take]; rfl)) ?_; (with_reducible refine (spec_carried.calls k2 (fun k_ => some k_ = (.slice Ao34 x5_2.length co34 : Value).ownBlock) (.slice Ao34 x5_2.length co34) x5_2 t210 w _ ?side1 ?side2 A33.out).mono ?_); (case side1 => repeat (first | (with_reducible first | exact HB.out | apply below_alloc | apply pw_below_drewN | apply below_drew1) | exact HB.out)); (case side2 => exact Kd.R_tight rfl HO_5.out); rintro e w35 ⟨v211, rfl, ho0, hb, hkp⟩; refine ⟨_, rfl, ?_⟩; have n0_ := Aside0.mk (Kd.R_mono (ok' := fun k_ => True) ho0 (fun k_ hk_ => trivial)); have n1_ := Aside0.mk (hb); clear HB; clear HO_5; have HO212 := n0_; have HB := n1_; clear n0_ n1_; (try clear hb); (try clear hkp); (try clear ho0)))
              go_ret
              exact ⟨_, by first | rfl | (simp [errW_none, errW_some] <;> rfl) | (simp [*, errW_none, errW_some] <;> rfl), by (with_reducible repeat (first | apply Kd.R_alloc | apply Kd.R_drewN | apply Kd.R_drew)); exact HO212.out, by repeat (first | (with_reducible first | exact HB.out | apply below_alloc | apply pw_below_drewN | apply below_drew1) | exact HB.out)⟩
  · rw [if_neg c3] at H
    exact absurd H (by simp)

end Go.Proofs.Ytkgkdppjopilmaa.PNum
