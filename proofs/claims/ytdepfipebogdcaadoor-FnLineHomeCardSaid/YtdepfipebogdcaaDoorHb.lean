/- Texts of this session, joined: PPlx3, Leb, Vread, RdrA, RdrB, RdrC, RdrD, LModel, LRel, LSmall, Fast, LStepB, LStepC, LStepD. -/
import Derived.Test.YtdepfipebogdcaaDoorHa
import Derived.Laws.BitsAllLaws
import Derived.Laws.Bits128
import Derived.WalkKit
import Derived.Test.YtdepfipebogdcaaDoorProg
import Derived.Below
import Derived.Deep.Draws
import Derived.Deep.AppendLies
import Derived.Maps.AppendAt
import Derived.OwnWalk
import Derived.Laws.BytesArg
import Derived.Laws.MakeOwn
import Derived.Laws.OwnMore
import Derived.Deep.OwnRows
import Derived.Tactics
import Derived.Lib.ConvBytes
import Derived.Laws.Slices
import Derived.KernelRfl
import Derived.RowKit3
import Derived.Deep.LoopGhost
import Derived.Deep.QuietTactic
import Derived.BigQuiet
import Derived.WideLaws
import Derived.Deep.DeepCutAuto
import Derived.Deep.CutBlock
import Derived.Deep.RegionHeld3
import Derived.Laws.Rows
import Derived.Lib.AppendStr
import Derived.ArgAppend
import Derived.Laws.IdiomCopy
import Derived.OrdersHeld
import Derived.Laws.BitsLemmas
import Derived.RowKit
import Derived.Deep.RegionWith
import Derived.Lib.BytesEntry
import Derived.Laws.Externs
import Derived.Lib.SliceRun
import Derived.StillTail
import Derived.StillTactics
import Derived.WalkMore
import Derived.ScopeJumps
import Derived.Deep.RegionLaw
import Derived.StillTailTactics
set_option linter.unusedVariables false
set_option linter.unusedSimpArgs false
namespace Go.Proofs.YtdepfipebogdcaaDoor.PPl
open Go.RowKit Go.Proofs.YtdepfipebogdcaaDoorW.PrintWords Go.Proofs.YtdepfipebogdcaaDoorW.PrintLast Go.Proofs.YtdepfipebogdcaaDoorW.PrintMore
attribute [local go_sem] max2_int max_two   -- for this text's walks alone
set_option linter.unusedVariables false
set_option linter.unusedSimpArgs false

/-! ### spec_Fixed: function 20 -/
def spec_Fixed.l0 : Nat → Int → Int → Bool → List Int → Int → Option (List Int)
  | 0, _, _, _, _, _ => none
  | k + 1, x0, x1, x2, x7, x8 => if x8 < x1 then (if x2 = true then (if 0 ≤ (wrap64 ((wrap64 (x1 - 1)) - x8)) then (if (wrap64 ((wrap64 (x1 - 1)) - x8)) < (x7.length : Int) then (spec_Fixed.l0 k (x0 / 256) x1 x2 (x7.set ((wrap64 ((wrap64 (x1 - 1)) - x8)) : Int).toNat ((x0) % 256)) (wrap64 (x8 + 1))) else (none)) else (none)) else (if 0 ≤ x8 then (if x8 < (x7.length : Int) then (spec_Fixed.l0 k (x0 / 256) x1 x2 (x7.set (x8 : Int).toNat ((x0) % 256)) (wrap64 (x8 + 1))) else (none)) else (none))) else (some x7)
def spec_Fixed.f (k : Nat) (a0 : Int) (a1 : Int) (a2 : Bool) : Option (List Int) := if 0 ≤ a1 then (if (a1 : Int).toNat ≤ 281474976710656 then (spec_Fixed.l0 k a0 a1 a2 (List.replicate (a1 : Int).toNat 0) 0) else (none)) else (none)
theorem spec_Fixed.mono_l : ∀ k, (∀ y0 y1 y2 y3 y4, LeO (spec_Fixed.l0 k y0 y1 y2 y3 y4) (spec_Fixed.l0 (k + 1) y0 y1 y2 y3 y4))
  | 0 => fun _ _ _ _ _ r h => by simp [spec_Fixed.l0] at h
  | k + 1 => by
    have ih0 := spec_Fixed.mono_l k
    · intro y0 y1 y2 y3 y4
      unfold spec_Fixed.l0
      repeat' first
      | (with_reducible exact ih0 _ _ _ _ _)
      | (with_reducible exact LeO.refl _)
      | (with_reducible exact LeO.none _)
      | (with_reducible refine LeO.ite ?_ ?_)
      | (with_reducible refine LeO.bind ?_ (fun _ => ?_))
      | exact ih0 _ _ _ _ _
      | exact LeO.none _
      | refine LeO.ite ?_ ?_
      | refine LeO.bind ?_ (fun _ => ?_)
theorem spec_Fixed.mono : ∀ a0 a1 a2 k, LeO (spec_Fixed.f k a0 a1 a2) (spec_Fixed.f (k + 1) a0 a1 a2) := by
  intro a0 a1 a2 k
  have ih0 := spec_Fixed.mono_l k
  unfold spec_Fixed.f
  repeat' first
      | (with_reducible exact ih0 _ _ _ _ _)
      | (with_reducible exact LeO.refl _)
      | (with_reducible exact LeO.none _)
      | (with_reducible refine LeO.ite ?_ ?_)
      | (with_reducible refine LeO.bind ?_ (fun _ => ?_))
      | exact ih0 _ _ _ _ _
      | exact LeO.none _
      | refine LeO.ite ?_ ?_
      | refine LeO.bind ?_ (fun _ => ?_)
set_option maxHeartbeats 8000000 in
set_option maxRecDepth 100000 in
theorem spec_Fixed.calls (k : Nat) (a0 : Int) (a1 : Int) (a2 : Bool) (r : List Int) (w : World) (h : spec_Fixed.f k a0 a1 a2 = some r) :
    Calls Tryd.prog 20 #[.int .u64 a0, .int .i64 a1, .bool a2] w fun e w' => ∃ v0_ : Value, e = .returned (v0_) ∧ Kd.R (Kd.int .u8) 5 w' w.heap.size (fun _ => True) v0_ r ∧ Below w.heap.size w w' := by
  have HB := Aside0.mk (Below.refl w.heap.size w)
  have H : (if 0 ≤ a1 then (if (a1 : Int).toNat ≤ 281474976710656 then (spec_Fixed.l0 k a0 a1 a2 (List.replicate (a1 : Int).toNat 0) 0) else (none)) else (none)) = some r := h
  clear h
  by_cases c4 : 0 ≤ a1
  · rw [if_pos c4] at H
    have c4b0 := eq_true c4
    have c4b1 : decide (0 ≤ a1) = true := decide_eq_true c4
    clear c4
    by_cases c5 : (a1 : Int).toNat ≤ 281474976710656
    · rw [if_pos c5] at H
      have c5b0 := eq_true c5
      have c5b1 : decide ((a1 : Int).toNat ≤ 281474976710656) = true := decide_eq_true c5
      clear c5
      obtain ⟨y116, hy116⟩ : ∃ y_ : List Int, y_ = (List.replicate (a1 : Int).toNat 0) := ⟨_, rfl⟩
      replace H : (spec_Fixed.l0 k a0 a1 a2 y116 0) = some r := by first | (rw [hy116]; with_reducible exact H) | (have H2_ := (Option.bind_some _ _).symm.trans H; rw [hy116]; with_reducible exact H2_) | (have H2_ := (Option.bind_some _ _).symm.trans H; with_reducible exact H2_) | with_reducible exact H | (rw [hy116]; exact H) | exact H
      have Ny116 := Aside0.mk hy116
      clear hy116
      have H' := Aside0.mk H
      clear H
      go_enter Tryd.func20, Tryd.ntmps20
      go_wp2_with (first | ((with_reducible refine gate_dst (N := 11) rfl ?_); refine Kd.R_make (Kd.int .u8) _ 5 rfl (N := 11) rfl 23 _ _ rfl a1 rfl rfl Tryd.underlying23 (.int .u8 0) 1 info5 rfl (by decide) (by omega) 0 (ok := fun _ => True) (okp := fun _ => True) rfl (fun _ hk => hk) trivial (of_decide_eq_true qA) (Nat.le_trans (Nat.mul_le_mul_right _ (of_decide_eq_true qA : a1.toNat ≤ 281474976710656)) (by omega)) (Below.refl _ _) (Nat.le_refl _) ?_; intro v117 w6 ho7 hb hg_ hnew_; clear hg_ hnew_; (first | rw [← Ny116.out] at ho7 | (simp only [Int.reduceToNat] at ho7; rw [← Ny116.out] at ho7)); have n0_ := Aside0.mk (Kd.R_lower ho7 (below_size qB)); have n1_ := Aside0.mk (below_step qB hb); clear HB; have HO118 := n0_; have HB := n1_; clear n0_ n1_; clear hb ho7))
      go_loopg [0, 8] k (fun kq v0 v8 w' => ∃ (x0_1 : Int) (x7_1 : List Int) (x8_1 : Int), v0 = .int .u64 x0_1 ∧ v8 = .int .i64 x8_1 ∧ Aside0 (spec_Fixed.l0 kq x0_1 a1 a2 x7_1 x8_1 = some r) ∧ Aside0 (kq ≤ k) ∧ Aside0 (Kd.R (Kd.int .u8) 5 w' w.heap.size (fun _ => True) v117 x7_1) ∧ Aside0 (Below w.heap.size w w'))
      case atStart => exact ⟨(a0), (y116), (0), (by first | rfl | (simp; done) | (simp [*]; done)), (by first | rfl | (simp; done) | (simp [*]; done)), H', ⟨Nat.le_refl _⟩, ⟨by (with_reducible repeat (first | apply Kd.R_alloc | apply Kd.R_drewN | apply Kd.R_drew)); exact HO118.out⟩, ⟨by repeat (first | (with_reducible first | exact HB.out | apply below_alloc | apply pw_below_drewN | apply below_drew1) | exact HB.out)⟩⟩
      case round =>
        clear H'
        try clear c2
        try clear p2
        try clear c4
        try clear c4b0
        try clear c4b1
        try clear c5
        try clear c5b0
        try clear c5b1
        obtain ⟨x0_1, x7_1, x8_1, rfl, rfl, HA, HK1, HO_7, HB⟩ := hrel
        cases gk with
        | zero => exact absurd HA.out (by simp [spec_Fixed.l0])
        | succ k1 =>
          have H := HA.out
          clear HA
          simp only [spec_Fixed.l0] at H
          by_cases c8 : x8_1 < a1
          · rw [if_pos c8] at H
            have c8b0 : decide (x8_1 < a1) = true := decide_eq_true c8
            clear c8
            by_cases c9 : a2 = true
            · subst c9
              have H1 : (if 0 ≤ (wrap64 ((wrap64 (a1 - 1)) - x8_1)) then (if (wrap64 ((wrap64 (a1 - 1)) - x8_1)) < (x7_1.length : Int) then (spec_Fixed.l0 k1 (x0_1 / 256) a1 true (x7_1.set ((wrap64 ((wrap64 (a1 - 1)) - x8_1)) : Int).toNat ((x0_1) % 256)) (wrap64 (x8_1 + 1))) else (none)) else (none)) = some r := by rw [if_pos rfl] at H; exact H
              clear H
              have H := H1
              clear H1
              obtain ⟨ji10, hji10⟩ : ∃ j_ : Int, (wrap64 ((wrap64 (a1 - 1)) - x8_1)) = j_ := ⟨_, rfl⟩
              replace H : (if 0 ≤ (ji10) then (if (ji10) < (x7_1.length : Int) then (spec_Fixed.l0 k1 (x0_1 / 256) a1 true (x7_1.set ((ji10) : Int).toNat ((x0_1) % 256)) (wrap64 (x8_1 + 1))) else (none)) else (none)) = some r := by first | (rw [hji10] at H; exact H) | (simp only [hji10] at H ⊢; exact H)
              have hji10w : (IntKind.i64.wrap ((wrap64 (a1 - 1)) - x8_1)) = ji10 := (i64_w _).trans hji10
              by_cases c11 : 0 ≤ (ji10)
              · rw [if_pos c11] at H
                have c11b0 : decide (0 ≤ (ji10)) = true := decide_eq_true c11
                clear c11
                by_cases c12 : (ji10) < (x7_1.length : Int)
                · rw [if_pos c12] at H
                  have c12b0 : decide ((ji10) < (x7_1.length : Int)) = true := decide_eq_true c12
                  clear c12
                  obtain ⟨y119, hy119⟩ : ∃ y_ : List Int, y_ = (x7_1.set ((ji10) : Int).toNat ((x0_1) % 256)) := ⟨_, rfl⟩
                  replace H : (spec_Fixed.l0 k1 (x0_1 / 256) a1 true y119 (wrap64 (x8_1 + 1))) = some r := by first | (rw [hy119]; with_reducible exact H) | (have H2_ := (Option.bind_some _ _).symm.trans H; rw [hy119]; with_reducible exact H2_) | (have H2_ := (Option.bind_some _ _).symm.trans H; with_reducible exact H2_) | with_reducible exact H | (rw [hy119]; exact H) | exact H
                  have Ny119 := Aside0.mk hy119
                  clear hy119
                  have H' := Aside0.mk H
                  clear H
                  have p13 : 0 ≤ ((ji10) : Int) := of_decide_eq_true qA
                  have q13 : ((ji10) : Int) < ((x7_1.length : Int) : Int) := of_decide_eq_true qA
                  obtain ⟨go13, co13, eo13, gb13, gl13, cl13, HG13⟩ := Kd.R_form HO_7.out (by omega)
                  (first | cases eo13 | (injection eo13 with ea_ en_ ec_; (first | subst ea_ | (injection ea_ with ea_; subst ea_)); subst ec_; clear en_))
                  have GB13 := Aside0.mk gb13
                  have GG13 := Aside0.mk HG13
                  clear gb13 gl13 HG13
                  obtain ⟨hx13_0, hf13_0⟩ := Kd.R_celln 0 HO_7.out ((ji10) : Int) p13 q13
                  replace p13 := eq_true p13
                  replace q13 := eq_true q13
                  have HP14 := Kd.R_putg HO_7.out ((ji10) : Int) ((x0_1) % 256)
                  go_wp2_with (first | ((with_reducible refine gate_store (t := 5) (p := 27) rfl ?_); refine store_event (t := 5) (p := 27) (v := ?vo_w15) (w1 := (wr.setCell ⟨go13, ((ji10) : Int).toNat, none⟩ (.int .u8 ((x0_1) % 256)))) ?hg ?ho ?hn ?hr ?_; (case ho => rfl); (case hg => rfl); (case hn => rfl); (case hr => first | (go_simp; done) | (go_simp; rfl)); intro w15 hw; have hg : wr.grownBy w15 (some go13) := (by rw [hw]; exact HP14.2); have hp_ : Kd.R (Kd.int .u8) 5 w15 w.heap.size (fun _ => True) (.slice (some ⟨go13, 0, none⟩) x7_1.length co13) y119 := (by rw [hw, Ny119.out]; exact HP14.1); clear HP14; have n0_ := Aside0.mk (hp_); have n1_ := Aside0.mk ((by rw [hw]; exact below_set (HB.out) GB13.out : Below w.heap.size w w15)); clear HO_7; clear HB; have HO_7 := n0_; have HB := n1_; clear n0_ n1_; clear hg hw hp_))
                  go_roundg k1
                  case measure => have := HK1.out; omega
                  case rel => exact ⟨(x0_1 / 256), (y119), (wrap64 (x8_1 + 1)), (by first | rfl | (simp; done) | (simp [*]; done)), (by first | rfl | (simp; done) | (simp [*]; done)), H', ⟨by have := HK1.out; omega⟩, ⟨by (with_reducible repeat (first | apply Kd.R_alloc | apply Kd.R_drewN | apply Kd.R_drew)); exact HO_7.out⟩, ⟨by repeat (first | (with_reducible first | exact HB.out | apply below_alloc | apply pw_below_drewN | apply below_drew1) | exact HB.out)⟩⟩
                · rw [if_neg c12] at H
                  exact absurd H (by simp)
              · rw [if_neg c11] at H
                exact absurd H (by simp)
            · replace c9 := Bool.eq_false_iff.mpr c9
              subst c9
              have H1 : (if 0 ≤ x8_1 then (if x8_1 < (x7_1.length : Int) then (spec_Fixed.l0 k1 (x0_1 / 256) a1 false (x7_1.set (x8_1 : Int).toNat ((x0_1) % 256)) (wrap64 (x8_1 + 1))) else (none)) else (none)) = some r := by rw [if_neg (show ¬ (false = true) by decide)] at H; exact H
              clear H
              have H := H1
              clear H1
              by_cases c16 : 0 ≤ x8_1
              · rw [if_pos c16] at H
                have c16b0 : decide (0 ≤ x8_1) = true := decide_eq_true c16
                clear c16
                by_cases c17 : x8_1 < (x7_1.length : Int)
                · rw [if_pos c17] at H
                  have c17b0 : decide (x8_1 < (x7_1.length : Int)) = true := decide_eq_true c17
                  clear c17
                  obtain ⟨y120, hy120⟩ : ∃ y_ : List Int, y_ = (x7_1.set (x8_1 : Int).toNat ((x0_1) % 256)) := ⟨_, rfl⟩
                  replace H : (spec_Fixed.l0 k1 (x0_1 / 256) a1 false y120 (wrap64 (x8_1 + 1))) = some r := by first | (rw [hy120]; with_reducible exact H) | (have H2_ := (Option.bind_some _ _).symm.trans H; rw [hy120]; with_reducible exact H2_) | (have H2_ := (Option.bind_some _ _).symm.trans H; with_reducible exact H2_) | with_reducible exact H | (rw [hy120]; exact H) | exact H
                  have Ny120 := Aside0.mk hy120
                  clear hy120
                  have H' := Aside0.mk H
                  clear H
                  have p18 : 0 ≤ (x8_1 : Int) := of_decide_eq_true qA
                  have q18 : (x8_1 : Int) < ((x7_1.length : Int) : Int) := of_decide_eq_true qA
                  obtain ⟨go18, co18, eo18, gb18, gl18, cl18, HG18⟩ := Kd.R_form HO_7.out (by omega)
                  (first | cases eo18 | (injection eo18 with ea_ en_ ec_; (first | subst ea_ | (injection ea_ with ea_; subst ea_)); subst ec_; clear en_))
                  have GB18 := Aside0.mk gb18
                  have GG18 := Aside0.mk HG18
                  clear gb18 gl18 HG18
                  obtain ⟨hx18_0, hf18_0⟩ := Kd.R_celln 0 HO_7.out (x8_1 : Int) p18 q18
                  replace p18 := eq_true p18
                  replace q18 := eq_true q18
                  have HP19 := Kd.R_putg HO_7.out (x8_1 : Int) ((x0_1) % 256)
                  go_wp2_with (first | ((with_reducible refine gate_store (t := 5) (p := 27) rfl ?_); refine store_event (t := 5) (p := 27) (v := ?vo_w20) (w1 := (wr.setCell ⟨go18, (x8_1 : Int).toNat, none⟩ (.int .u8 ((x0_1) % 256)))) ?hg ?ho ?hn ?hr ?_; (case ho => rfl); (case hg => rfl); (case hn => rfl); (case hr => first | (go_simp; done) | (go_simp; rfl)); intro w20 hw; have hg : wr.grownBy w20 (some go18) := (by rw [hw]; exact HP19.2); have hp_ : Kd.R (Kd.int .u8) 5 w20 w.heap.size (fun _ => True) (.slice (some ⟨go18, 0, none⟩) x7_1.length co18) y120 := (by rw [hw, Ny120.out]; exact HP19.1); clear HP19; have n0_ := Aside0.mk (hp_); have n1_ := Aside0.mk ((by rw [hw]; exact below_set (HB.out) GB18.out : Below w.heap.size w w20)); clear HO_7; clear HB; have HO_7 := n0_; have HB := n1_; clear n0_ n1_; clear hg hw hp_))
                  go_roundg k1
                  case measure => have := HK1.out; omega
                  case rel => exact ⟨(x0_1 / 256), (y120), (wrap64 (x8_1 + 1)), (by first | rfl | (simp; done) | (simp [*]; done)), (by first | rfl | (simp; done) | (simp [*]; done)), H', ⟨by have := HK1.out; omega⟩, ⟨by (with_reducible repeat (first | apply Kd.R_alloc | apply Kd.R_drewN | apply Kd.R_drew)); exact HO_7.out⟩, ⟨by repeat (first | (with_reducible first | exact HB.out | apply below_alloc | apply pw_below_drewN | apply below_drew1) | exact HB.out)⟩⟩
                · rw [if_neg c17] at H
                  exact absurd H (by simp)
              · rw [if_neg c16] at H
                exact absurd H (by simp)
          · rw [if_neg c8] at H
            have c8b0 : decide (x8_1 < a1) = false := decide_eq_false c8
            clear c8
            obtain rfl := Option.some.inj H
            go_wp2
            go_ret
            exact ⟨_, by first | rfl | (simp [errW_none, errW_some] <;> rfl) | (simp [*, errW_none, errW_some] <;> rfl), by (with_reducible repeat (first | apply Kd.R_alloc | apply Kd.R_drewN | apply Kd.R_drew)); exact HO_7.out, by repeat (first | (with_reducible first | exact HB.out | apply below_alloc | apply pw_below_drewN | apply below_drew1) | exact HB.out)⟩
    · rw [if_neg c5] at H
      exact absurd H (by simp)
  · rw [if_neg c4] at H
    exact absurd H (by simp)

/-! ### laws_named: function 22 -/
def laws_named.l0 : Nat → Int → List Int → ByteArray → List Int → List Int → Int → Int → Int → Int → Int → Int → Int → Option (List Int)
  | 0, _, _, _, _, _, _, _, _, _, _, _, _ => none
  | k + 1, x1, x2, x3, x9, x29, x30, x31, x122000, x122001, x122002, x122003, x122004 => if x31 < x30 then (if 0 ≤ x31 then (if x31 < (x29.length : Int) then (if (wrap64 (x31 + 1)) < x122004 then (if x9.length < 140737488355328 then (laws_named.l0 k x1 x2 x3 (x9 ++ [rd x29 x31]) x29 x30 (wrap64 (x31 + 1)) x122000 x122001 x122002 x122003 x122004) else (none)) else (laws_named.l0 k x1 x2 x3 x9 x29 x30 (wrap64 (x31 + 1)) x122000 x122001 x122002 x122003 x122004)) else (none)) else (none)) else (if 0 ≤ (mx (wrap64 (x122004 - 13)) 0) then (if x9.length + (mx (wrap64 (x122004 - 13)) 0 : Int).toNat < 140737488355328 then ((some (x9 ++ List.replicate (mx (wrap64 (x122004 - 13)) 0 : Int).toNat 0 : List Int)).bind fun y132 => (if y132.length < 140737488355328 then ((some (y132 ++ [0] : List Int)).bind fun y135 => (if y135.length + x3.size < 140737488355328 then ((some (y135 ++ bytesOf x3 : List Int)).bind fun y138 => ((some (([0, 0, 0, 0, 0] : List Int) : List Int)).bind fun y141 => (if y138.length + y141.length < 140737488355328 then ((some (y138 ++ y141 : List Int)).bind fun y144 => ((some (([4, 0] : List Int) : List Int)).bind fun y147 => ((spec_Fixed.f k (IntKind.u64.wrap ((y144.length : Int))) 4 false).bind fun t150 => (if y147.length + t150.length < 140737488355328 then ((some (y147 ++ t150 : List Int)).bind fun y153 => (if y153.length + y144.length < 140737488355328 then ((some (y153 ++ y144 : List Int)).bind fun y156 => ((some (([0, 9, 2] : List Int) : List Int)).bind fun y159 => (if y156.length + y159.length < 140737488355328 then ((some (y156 ++ y159 : List Int)).bind fun y162 => ((spec_Fixed.f k x1 8 false).bind fun t165 => (if y162.length + t165.length < 140737488355328 then ((some (y162 ++ t165 : List Int)).bind fun y168 => (if y168.length + x2.length < 140737488355328 then ((some (y168 ++ x2 : List Int)).bind fun y171 => ((some (([0, 1, 1] : List Int) : List Int)).bind fun y174 => (if y171.length + y174.length < 140737488355328 then ((some (y171 ++ y174 : List Int)).bind fun y177 => ((spec_Fixed.f k (IntKind.u64.wrap ((y177.length : Int))) 4 false).bind fun t180 => (if t180.length + y177.length < 140737488355328 then (some (t180 ++ y177)) else (none)))) else (none)))) else (none))) else (none)))) else (none)))) else (none))) else (none))))) else (none)))) else (none))) else (none))) else (none)) else (none))
def laws_named.f (k : Nat) (a0_0 : Int) (a0_1 : Int) (a0_2 : Int) (a0_3 : Int) (a0_4 : Int) (a1 : Int) (l2 : List Int) (a3 : ByteArray) : Option (List Int) := (some (([0, 1, 1, 1, 1, 0, 0, 0, 1, 0, 0, 1] : List Int) : List Int)).bind fun y125 => (laws_named.l0 k a1 l2 a3 (([(a0_0) % 256, (a0_1) % 256, 0, (a0_2) % 256, (a0_3) % 256, (a0_4) % 256] : List Int)) y125 (y125.length : Int) 0 a0_0 a0_1 a0_2 a0_3 a0_4)
theorem laws_named.mono_l : ∀ k, (∀ y0 y1 y2 y3 y4 y5 y6 y7 y8 y9 y10 y11, LeO (laws_named.l0 k y0 y1 y2 y3 y4 y5 y6 y7 y8 y9 y10 y11) (laws_named.l0 (k + 1) y0 y1 y2 y3 y4 y5 y6 y7 y8 y9 y10 y11))
  | 0 => fun _ _ _ _ _ _ _ _ _ _ _ _ r h => by simp [laws_named.l0] at h
  | k + 1 => by
    have ih0 := laws_named.mono_l k
    · intro y0 y1 y2 y3 y4 y5 y6 y7 y8 y9 y10 y11
      unfold laws_named.l0
      repeat' first
      | (with_reducible exact ih0 _ _ _ _ _ _ _ _ _ _ _ _)
      | (with_reducible exact spec_Fixed.mono _ _ _ _)
      | (with_reducible exact LeO.refl _)
      | (with_reducible exact LeO.none _)
      | (with_reducible refine LeO.ite ?_ ?_)
      | (with_reducible refine LeO.bind ?_ (fun _ => ?_))
      | exact ih0 _ _ _ _ _ _ _ _ _ _ _ _
      | exact spec_Fixed.mono _ _ _ _
      | exact LeO.none _
      | refine LeO.ite ?_ ?_
      | refine LeO.bind ?_ (fun _ => ?_)
theorem laws_named.mono : ∀ a0 a1 a2 a3 a4 a5 a6 a7 k, LeO (laws_named.f k a0 a1 a2 a3 a4 a5 a6 a7) (laws_named.f (k + 1) a0 a1 a2 a3 a4 a5 a6 a7) := by
  intro a0 a1 a2 a3 a4 a5 a6 a7 k
  have ih0 := laws_named.mono_l k
  unfold laws_named.f
  repeat' first
      | (with_reducible exact ih0 _ _ _ _ _ _ _ _ _ _ _ _)
      | (with_reducible exact spec_Fixed.mono _ _ _ _)
      | (with_reducible exact LeO.refl _)
      | (with_reducible exact LeO.none _)
      | (with_reducible refine LeO.ite ?_ ?_)
      | (with_reducible refine LeO.bind ?_ (fun _ => ?_))
      | exact ih0 _ _ _ _ _ _ _ _ _ _ _ _
      | exact spec_Fixed.mono _ _ _ _
      | exact LeO.none _
      | refine LeO.ite ?_ ?_
      | refine LeO.bind ?_ (fun _ => ?_)
set_option maxHeartbeats 8000000 in
set_option maxRecDepth 100000 in
theorem laws_named.calls (k : Nat) (a0_0 : Int) (a0_1 : Int) (a0_2 : Int) (a0_3 : Int) (a0_4 : Int) (a1 : Int) (A2 : Option Addr) (c2 : Nat) (l2 : List Int) (a3 : ByteArray) (r : List Int) (w : World) (hr2 : Kd.C (Kd.int .u8) w A2 l2.length l2) (hc2 : l2.length ≤ c2) (h : laws_named.f k a0_0 a0_1 a0_2 a0_3 a0_4 a1 l2 a3 = some r) :
    Calls Tryd.prog 22 #[.agg #[.int .i64 a0_0, .int .i64 a0_1, .int .i64 a0_2, .int .i64 a0_3, .int .i64 a0_4], .int .u64 a1, .slice A2 l2.length c2, .string a3] w fun e w' => ∃ v0_ : Value, e = .returned (v0_) ∧ Kd.R (Kd.int .u8) 5 w' w.heap.size (fun _ => True) v0_ r ∧ Below w.heap.size w w' := by
  have hu31 := Tryd.underlying31
  have HR2 := Aside0.mk hr2
  have HC2 := Aside0.mk hc2
  clear hr2 hc2
  have HB := Aside0.mk (Below.refl w.heap.size w)
  have H : ((some (([0, 1, 1, 1, 1, 0, 0, 0, 1, 0, 0, 1] : List Int) : List Int)).bind fun y125 => (laws_named.l0 k a1 l2 a3 (([(a0_0) % 256, (a0_1) % 256, 0, (a0_2) % 256, (a0_3) % 256, (a0_4) % 256] : List Int)) y125 (y125.length : Int) 0 a0_0 a0_1 a0_2 a0_3 a0_4)) = some r := h
  clear h
  obtain ⟨y122, hy122⟩ : ∃ y_ : List Int, y_ = (([(a0_0) % 256, (a0_1) % 256, 0, (a0_2) % 256, (a0_3) % 256, (a0_4) % 256] : List Int)) := ⟨_, rfl⟩
  replace H : ((some (([0, 1, 1, 1, 1, 0, 0, 0, 1, 0, 0, 1] : List Int) : List Int)).bind fun y125 => (laws_named.l0 k a1 l2 a3 y122 y125 (y125.length : Int) 0 a0_0 a0_1 a0_2 a0_3 a0_4)) = some r := by first | (rw [hy122]; with_reducible exact H) | (have H2_ := (Option.bind_some _ _).symm.trans H; rw [hy122]; with_reducible exact H2_) | (have H2_ := (Option.bind_some _ _).symm.trans H; with_reducible exact H2_) | with_reducible exact H | (rw [hy122]; exact H) | exact H
  have Ny122 := Aside0.mk hy122
  clear hy122
  obtain ⟨y125, hy125⟩ : ∃ y_ : List Int, y_ = (([0, 1, 1, 1, 1, 0, 0, 0, 1, 0, 0, 1] : List Int)) := ⟨_, rfl⟩
  replace H : (laws_named.l0 k a1 l2 a3 y122 y125 (y125.length : Int) 0 a0_0 a0_1 a0_2 a0_3 a0_4) = some r := by first | (rw [hy125]; with_reducible exact H) | (have H2_ := (Option.bind_some _ _).symm.trans H; rw [hy125]; with_reducible exact H2_) | (have H2_ := (Option.bind_some _ _).symm.trans H; with_reducible exact H2_) | with_reducible exact H | (rw [hy125]; exact H) | exact H
  have Ny125 := Aside0.mk hy125
  clear hy125
  have H' := Aside0.mk H
  clear H
  go_enter Tryd.func22, Tryd.ntmps22
  go_wp2_with (first | ((with_reducible refine gate_dst (N := 4) rfl ?_); refine box_event ?hg (N := 4) ?hd (cs := #[.int .i64 a0_0, .int .i64 a0_1, .int .i64 a0_2, .int .i64 a0_3, .int .i64 a0_4]) (t := 31) ?hr ?_; (case hd => rfl); (case hg => rfl); (case hr => first | (go_simp; done) | (go_simp; rfl)); intro gb121 hg w5 hbox hb; have n0_ := Aside0.mk (below_step qB hb); have n1_ := Aside0.mk (hbox); have n2_ := Aside0.mk ((by rw [hg]; exact (below_size qB) : w.heap.size ≤ gb121)); have n3_ := Aside0.mk ((by rw [hg]; exact (below_size qB) : w.heap.size ≤ gb121)); clear HB; have HB := n0_; have BK121 := n1_; have GW121 := n2_; have GE121 := n3_; clear n0_ n1_ n2_ n3_; clear hb hbox hg; have hcz6_0 : w5.cell? ⟨gb121, 0, none⟩ = some (.int .i64 a0_0) := (blk_cell BK121.out 0).trans rfl; have hcz6_1 : w5.cell? ⟨gb121, 1, none⟩ = some (.int .i64 a0_1) := (blk_cell BK121.out 1).trans rfl; have hcz6_2 : w5.cell? ⟨gb121, 2, none⟩ = some (.int .i64 a0_2) := (blk_cell BK121.out 2).trans rfl; have hcz6_3 : w5.cell? ⟨gb121, 3, none⟩ = some (.int .i64 a0_3) := (blk_cell BK121.out 3).trans rfl; have hcz6_4 : w5.cell? ⟨gb121, 4, none⟩ = some (.int .i64 a0_4) := (blk_cell BK121.out 4).trans rfl; have hfz6_0 := blk_frozen BK121.out 0; have hfz6_1 := blk_frozen BK121.out 1; have hfz6_2 := blk_frozen BK121.out 2; have hfz6_3 := blk_frozen BK121.out 3; have hfz6_4 := blk_frozen BK121.out 4) | ((with_reducible refine gate_dst (N := 28) rfl ?_); refine Kd.R_lit (Kd.int .u8) _ 5 ?hg (N := 28) ?hd (xs := ([(a0_0) % 256, (a0_1) % 256, 0, (a0_2) % 256, (a0_3) % 256, (a0_4) % 256] : List Int)) (inner := [.int .u8 ((a0_0) % 256), .int .u8 ((a0_1) % 256), .int .u8 0, .int .u8 ((a0_2) % 256), .int .u8 ((a0_3) % 256), .int .u8 ((a0_4) % 256)]) (ok := fun _ => True) (okp := fun _ => True) ?hr ?hp (fun _ hk => hk) trivial (Below.refl _ _) (Nat.le_refl _) (by simp) ?_; (case hd => rfl); (case hg => rfl); (case hr => first | (go_simp; done) | (go_simp; rfl)); (case hp => exact (Reps.one (show Kd.M (Kd.int .u8) _ _ _ ((a0_0) % 256) [.int .u8 ((a0_0) % 256)] from rfl) (Reps.one (show Kd.M (Kd.int .u8) _ _ _ ((a0_1) % 256) [.int .u8 ((a0_1) % 256)] from rfl) (Reps.one (show Kd.M (Kd.int .u8) _ _ _ 0 [.int .u8 0] from rfl) (Reps.one (show Kd.M (Kd.int .u8) _ _ _ ((a0_2) % 256) [.int .u8 ((a0_2) % 256)] from rfl) (Reps.one (show Kd.M (Kd.int .u8) _ _ _ ((a0_3) % 256) [.int .u8 ((a0_3) % 256)] from rfl) (Reps.one (show Kd.M (Kd.int .u8) _ _ _ ((a0_4) % 256) [.int .u8 ((a0_4) % 256)] from rfl) (Reps.none _ _)))))))); intro v123 w7 ho8 hb hg_ hnew_; clear hg_ hnew_; (first | rw [← Ny122.out] at ho8 | (simp only [Int.reduceToNat] at ho8; rw [← Ny122.out] at ho8)); have n0_ := Aside0.mk (Kd.R_lower ho8 (below_size (qG GE121.out))); have n1_ := Aside0.mk (blk_below (g := gb121) (o := .cells #[.int .i64 a0_0, .int .i64 a0_1, .int .i64 a0_2, .int .i64 a0_3, .int .i64 a0_4] 31 (0, 0)) (qK BK121.out) hb); have n2_ := Aside0.mk (below_step (qG GE121.out) hb); clear BK121; clear HB; have HO124 := n0_; have BK121 := n1_; have HB := n2_; clear n0_ n1_ n2_; clear hb ho8) | ((with_reducible refine gate_dst (N := 29) rfl ?_); refine Kd.R_lit (Kd.int .u8) _ 5 ?hg (N := 29) ?hd (xs := ([0, 1, 1, 1, 1, 0, 0, 0, 1, 0, 0, 1] : List Int)) (inner := [.int .u8 0, .int .u8 1, .int .u8 1, .int .u8 1, .int .u8 1, .int .u8 0, .int .u8 0, .int .u8 0, .int .u8 1, .int .u8 0, .int .u8 0, .int .u8 1]) (ok := fun _ => True) (okp := fun _ => True) ?hr ?hp (fun _ hk => hk) trivial (Below.refl _ _) (Nat.le_refl _) (by simp) ?_; (case hd => rfl); (case hg => rfl); (case hr => first | (go_simp; done) | (go_simp; rfl)); (case hp => exact (Reps.one (show Kd.M (Kd.int .u8) _ _ _ 0 [.int .u8 0] from rfl) (Reps.one (show Kd.M (Kd.int .u8) _ _ _ 1 [.int .u8 1] from rfl) (Reps.one (show Kd.M (Kd.int .u8) _ _ _ 1 [.int .u8 1] from rfl) (Reps.one (show Kd.M (Kd.int .u8) _ _ _ 1 [.int .u8 1] from rfl) (Reps.one (show Kd.M (Kd.int .u8) _ _ _ 1 [.int .u8 1] from rfl) (Reps.one (show Kd.M (Kd.int .u8) _ _ _ 0 [.int .u8 0] from rfl) (Reps.one (show Kd.M (Kd.int .u8) _ _ _ 0 [.int .u8 0] from rfl) (Reps.one (show Kd.M (Kd.int .u8) _ _ _ 0 [.int .u8 0] from rfl) (Reps.one (show Kd.M (Kd.int .u8) _ _ _ 1 [.int .u8 1] from rfl) (Reps.one (show Kd.M (Kd.int .u8) _ _ _ 0 [.int .u8 0] from rfl) (Reps.one (show Kd.M (Kd.int .u8) _ _ _ 0 [.int .u8 0] from rfl) (Reps.one (show Kd.M (Kd.int .u8) _ _ _ 1 [.int .u8 1] from rfl) (Reps.none _ _)))))))))))))); intro v126 w9 ho10 hb hg_ hnew_; clear hg_ hnew_; (first | rw [← Ny125.out] at ho10 | (simp only [Int.reduceToNat] at ho10; rw [← Ny125.out] at ho10)); have n0_ := Aside0.mk (Kd.R_elder' (qR HO124.out) (Kd.R_base ho10) hb); have n1_ := Aside0.mk (Kd.R_lower (Kd.R_new' ho10 (Kd.R_lt (qR HO124.out))) (below_size (qG GE121.out))); have n2_ := Aside0.mk (blk_below (g := gb121) (o := .cells #[.int .i64 a0_0, .int .i64 a0_1, .int .i64 a0_2, .int .i64 a0_3, .int .i64 a0_4] 31 (0, 0)) (qK BK121.out) hb); have n3_ := Aside0.mk (below_step (qG GE121.out) hb); clear HO124; clear BK121; clear HB; have HO124 := n0_; have HO127 := n1_; have BK121 := n2_; have HB := n3_; clear n0_ n1_ n2_ n3_; clear hb ho10; obtain ⟨Ao11, co11, eo11⟩ := Kd.R_slice HO127.out; subst eo11))
  go_loopg [9, 31] k (fun kq v9 v31 w' => ∃ (x9_1 : List Int) (x31_1 : Int), v31 = .int .i64 x31_1 ∧ Aside0 (laws_named.l0 kq a1 l2 a3 x9_1 y125 (y125.length : Int) x31_1 a0_0 a0_1 a0_2 a0_3 a0_4 = some r) ∧ Aside0 (kq ≤ k) ∧ Aside0 (Kd.R (Kd.int .u8) 5 w' w.heap.size (fun k_ => some k_ ≠ ((.slice Ao11 y125.length co11) : Value).ownBlock) v9 x9_1) ∧ Aside0 (Kd.R (Kd.int .u8) 5 w' w.heap.size (fun k_ => some k_ ≠ (v9 : Value).ownBlock) (.slice Ao11 y125.length co11) y125) ∧ Aside0 (w'.heap[gb121]? = some (.cells #[.int .i64 a0_0, .int .i64 a0_1, .int .i64 a0_2, .int .i64 a0_3, .int .i64 a0_4] 31 (0, 0))) ∧ Aside0 (Below w.heap.size w w'))
  case atStart => exact ⟨(y122), (0), (by first | rfl | (simp; done) | (simp [*]; done)), H', ⟨Nat.le_refl _⟩, ⟨by (with_reducible repeat (first | apply Kd.R_alloc | apply Kd.R_drewN | apply Kd.R_drew)); exact Kd.R_mono HO124.out (fun _ hk => hk.2)⟩, ⟨by (with_reducible repeat (first | apply Kd.R_alloc | apply Kd.R_drewN | apply Kd.R_drew)); exact Kd.R_mono HO127.out (fun _ hk => hk.2)⟩, ⟨by (with_reducible repeat (first | refine blk_drewN ?_ _ | refine blk_drew ?_ | refine blk_alloc ?_ _)); exact BK121.out⟩, ⟨by repeat (first | (with_reducible first | exact HB.out | apply below_alloc | apply pw_below_drewN | apply below_drew1 | refine below_set ?_ GE121.out) | exact HB.out)⟩⟩
  case round =>
    clear H'
    try clear c2
    try clear p2
    try clear hcz6_0
    try clear hcz6_1
    try clear hcz6_2
    try clear hcz6_3
    try clear hcz6_4
    try clear hfz6_0
    try clear hfz6_1
    try clear hfz6_2
    try clear hfz6_3
    try clear hfz6_4
    obtain ⟨x9_1, x31_1, rfl, HA, HK1, HO_9, HO_29, BK121, HB⟩ := hrel
    cases gk with
    | zero => exact absurd HA.out (by simp [laws_named.l0])
    | succ k1 =>
      have H := HA.out
      clear HA
      simp only [laws_named.l0] at H
      by_cases c12 : x31_1 < (y125.length : Int)
      · rw [if_pos c12] at H
        have c12b0 : decide (x31_1 < (y125.length : Int)) = true := decide_eq_true c12
        clear c12
        by_cases c13 : 0 ≤ x31_1
        · rw [if_pos c13] at H
          have c13b0 : decide (0 ≤ x31_1) = true := decide_eq_true c13
          clear c13
          by_cases c14 : x31_1 < (y125.length : Int)
          · rw [if_pos c14] at H
            have c14b0 : decide (x31_1 < (y125.length : Int)) = true := decide_eq_true c14
            clear c14
            by_cases c15 : (wrap64 (x31_1 + 1)) < a0_4
            · rw [if_pos c15] at H
              have c15b0 : decide ((wrap64 (x31_1 + 1)) < a0_4) = true := decide_eq_true c15
              clear c15
              by_cases c16 : x9_1.length < 140737488355328
              · rw [if_pos c16] at H
                have LMc16 := Aside0.mk c16
                clear c16
                obtain ⟨y129, hy129⟩ : ∃ y_ : List Int, y_ = (x9_1 ++ [rd y125 x31_1]) := ⟨_, rfl⟩
                replace H : (laws_named.l0 k1 a1 l2 a3 y129 y125 (y125.length : Int) (wrap64 (x31_1 + 1)) a0_0 a0_1 a0_2 a0_3 a0_4) = some r := by first | (rw [hy129]; with_reducible exact H) | (have H2_ := (Option.bind_some _ _).symm.trans H; rw [hy129]; with_reducible exact H2_) | (have H2_ := (Option.bind_some _ _).symm.trans H; with_reducible exact H2_) | with_reducible exact H | (rw [hy129]; exact H) | exact H
                have Ny129 := Aside0.mk hy129
                clear hy129
                have H' := Aside0.mk H
                clear H
                have p128 : 0 ≤ (x31_1 : Int) := of_decide_eq_true qA
                have q128 : x31_1 < (y125.length : Int) := of_decide_eq_true qA
                obtain ⟨ad128, e128, hx128_0⟩ := Kd.at_int (Kd.R_reads' HO_29.out).2.2 x31_1 p128 q128
                cases e128
                replace p128 := eq_true p128
                replace q128 := eq_true q128
                have hcz17_0 : wr.cell? ⟨gb121, 0, none⟩ = some (.int .i64 a0_0) := (blk_cell BK121.out 0).trans rfl
                have hcz17_1 : wr.cell? ⟨gb121, 1, none⟩ = some (.int .i64 a0_1) := (blk_cell BK121.out 1).trans rfl
                have hcz17_2 : wr.cell? ⟨gb121, 2, none⟩ = some (.int .i64 a0_2) := (blk_cell BK121.out 2).trans rfl
                have hcz17_3 : wr.cell? ⟨gb121, 3, none⟩ = some (.int .i64 a0_3) := (blk_cell BK121.out 3).trans rfl
                have hcz17_4 : wr.cell? ⟨gb121, 4, none⟩ = some (.int .i64 a0_4) := (blk_cell BK121.out 4).trans rfl
                have hfz17_0 := blk_frozen BK121.out 0
                have hfz17_1 := blk_frozen BK121.out 1
                have hfz17_2 := blk_frozen BK121.out 2
                have hfz17_3 := blk_frozen BK121.out 3
                have hfz17_4 := blk_frozen BK121.out 4
                go_wp2_with (first | ((with_reducible refine gate_builtin (b := .append) (xs := #[.tmp 41, .tmp 43]) rfl ?_); at_builtin; refine Kd.R_append (Kd.int .u8) (w0 := w) w.heap.size rfl (.tmp 41) (.tmp 43) 23 5 (.int .u8 0) 1 rfl Tryd.underlying23 info5 rfl (by decide) (by omega) u9 x9_1 (rd y125 x31_1) [.int .u8 (rd y125 x31_1)] (fun k_ => some k_ ≠ (.slice (some ad128) y125.length co11 : Value).ownBlock) (fun _ => False) rfl rfl ?aP (fun _ hk => hk.elim) ?aF ?aO ?aB ?aS ?aL ?_; (case aP => exact rfl); (case aB => exact (qG GE121.out)); (case aF => exact (fun k_ hk => Kd.fresh' (Kd.R_lt (qR HO_29.out)) k_ hk)); (case aO => exact (qR HO_9.out)); (case aS => exact (below_size (qG GE121.out))); (case aL => have := LMc16.out; omega); intro v130 w18 ho hb hg hat; rw [← Ny129.out] at ho; have n0_ := Aside0.mk (Kd.R_after (ok := (fun _ => True)) (by (with_reducible repeat (first | apply Kd.R_alloc | apply Kd.R_drewN | apply Kd.R_drew)); exact Kd.R_mono HO_29.out (fun _ hk => ⟨trivial, hk⟩)) hg hat); have n1_ := Aside0.mk (blk_grown (g := gb121) (o := .cells #[.int .i64 a0_0, .int .i64 a0_1, .int .i64 a0_2, .int .i64 a0_3, .int .i64 a0_4] 31 (0, 0)) (qK BK121.out) hg (Kd.R_ne HO_9.out BK121.out (by decide))); have n2_ := Aside0.mk (hb); have n3_ := Aside0.mk (ho); clear HO_29; clear BK121; clear HB; clear HO_9; have HO_29 := n0_; have BK121 := n1_; have HB := n2_; have HO131 := n3_; clear n0_ n1_ n2_ n3_; clear ho hb hg hat))
                go_roundg k1
                case measure => have := HK1.out; omega
                case rel => exact ⟨(y129), (wrap64 (x31_1 + 1)), (by first | rfl | (simp; done) | (simp [*]; done)), H', ⟨by have := HK1.out; omega⟩, ⟨by (with_reducible repeat (first | apply Kd.R_alloc | apply Kd.R_drewN | apply Kd.R_drew)); exact HO131.out⟩, ⟨by (with_reducible repeat (first | apply Kd.R_alloc | apply Kd.R_drewN | apply Kd.R_drew)); exact Kd.R_mono HO_29.out (fun _ hk => hk.2)⟩, ⟨by (with_reducible repeat (first | refine blk_drewN ?_ _ | refine blk_drew ?_ | refine blk_alloc ?_ _)); exact BK121.out⟩, ⟨by repeat (first | (with_reducible first | exact HB.out | apply below_alloc | apply pw_below_drewN | apply below_drew1 | refine below_set ?_ GE121.out) | exact HB.out)⟩⟩
              · rw [if_neg c16] at H
                exact absurd H (by simp)
            · rw [if_neg c15] at H
              have c15b0 : decide ((wrap64 (x31_1 + 1)) < a0_4) = false := decide_eq_false c15
              clear c15
              have H' := Aside0.mk H
              clear H
              have p128 : 0 ≤ (x31_1 : Int) := of_decide_eq_true qA
              have q128 : x31_1 < (y125.length : Int) := of_decide_eq_true qA
              obtain ⟨ad128, e128, hx128_0⟩ := Kd.at_int (Kd.R_reads' HO_29.out).2.2 x31_1 p128 q128
              cases e128
              replace p128 := eq_true p128
              replace q128 := eq_true q128
              have hcz19_0 : wr.cell? ⟨gb121, 0, none⟩ = some (.int .i64 a0_0) := (blk_cell BK121.out 0).trans rfl
              have hcz19_1 : wr.cell? ⟨gb121, 1, none⟩ = some (.int .i64 a0_1) := (blk_cell BK121.out 1).trans rfl
              have hcz19_2 : wr.cell? ⟨gb121, 2, none⟩ = some (.int .i64 a0_2) := (blk_cell BK121.out 2).trans rfl
              have hcz19_3 : wr.cell? ⟨gb121, 3, none⟩ = some (.int .i64 a0_3) := (blk_cell BK121.out 3).trans rfl
              have hcz19_4 : wr.cell? ⟨gb121, 4, none⟩ = some (.int .i64 a0_4) := (blk_cell BK121.out 4).trans rfl
              have hfz19_0 := blk_frozen BK121.out 0
              have hfz19_1 := blk_frozen BK121.out 1
              have hfz19_2 := blk_frozen BK121.out 2
              have hfz19_3 := blk_frozen BK121.out 3
              have hfz19_4 := blk_frozen BK121.out 4
              go_wp2
              go_roundg k1
              case measure => have := HK1.out; omega
              case rel => exact ⟨(x9_1), (wrap64 (x31_1 + 1)), (by first | rfl | (simp; done) | (simp [*]; done)), H', ⟨by have := HK1.out; omega⟩, ⟨by (with_reducible repeat (first | apply Kd.R_alloc | apply Kd.R_drewN | apply Kd.R_drew)); exact HO_9.out⟩, ⟨by (with_reducible repeat (first | apply Kd.R_alloc | apply Kd.R_drewN | apply Kd.R_drew)); exact HO_29.out⟩, ⟨by (with_reducible repeat (first | refine blk_drewN ?_ _ | refine blk_drew ?_ | refine blk_alloc ?_ _)); exact BK121.out⟩, ⟨by repeat (first | (with_reducible first | exact HB.out | apply below_alloc | apply pw_below_drewN | apply below_drew1 | refine below_set ?_ GE121.out) | exact HB.out)⟩⟩
          · rw [if_neg c14] at H
            exact absurd H (by simp)
        · rw [if_neg c13] at H
          exact absurd H (by simp)
      · rw [if_neg c12] at H
        have c12b0 : decide (x31_1 < (y125.length : Int)) = false := decide_eq_false c12
        clear c12
        obtain ⟨ji20, hji20⟩ : ∃ j_ : Int, (mx (wrap64 (a0_4 - 13)) 0) = j_ := ⟨_, rfl⟩
        replace H : (if 0 ≤ (ji20) then (if x9_1.length + (ji20 : Int).toNat < 140737488355328 then ((some (x9_1 ++ List.replicate (ji20 : Int).toNat 0 : List Int)).bind fun y132 => (if y132.length < 140737488355328 then ((some (y132 ++ [0] : List Int)).bind fun y135 => (if y135.length + a3.size < 140737488355328 then ((some (y135 ++ bytesOf a3 : List Int)).bind fun y138 => ((some (([0, 0, 0, 0, 0] : List Int) : List Int)).bind fun y141 => (if y138.length + y141.length < 140737488355328 then ((some (y138 ++ y141 : List Int)).bind fun y144 => ((some (([4, 0] : List Int) : List Int)).bind fun y147 => ((spec_Fixed.f k1 (IntKind.u64.wrap ((y144.length : Int))) 4 false).bind fun t150 => (if y147.length + t150.length < 140737488355328 then ((some (y147 ++ t150 : List Int)).bind fun y153 => (if y153.length + y144.length < 140737488355328 then ((some (y153 ++ y144 : List Int)).bind fun y156 => ((some (([0, 9, 2] : List Int) : List Int)).bind fun y159 => (if y156.length + y159.length < 140737488355328 then ((some (y156 ++ y159 : List Int)).bind fun y162 => ((spec_Fixed.f k1 a1 8 false).bind fun t165 => (if y162.length + t165.length < 140737488355328 then ((some (y162 ++ t165 : List Int)).bind fun y168 => (if y168.length + l2.length < 140737488355328 then ((some (y168 ++ l2 : List Int)).bind fun y171 => ((some (([0, 1, 1] : List Int) : List Int)).bind fun y174 => (if y171.length + y174.length < 140737488355328 then ((some (y171 ++ y174 : List Int)).bind fun y177 => ((spec_Fixed.f k1 (IntKind.u64.wrap ((y177.length : Int))) 4 false).bind fun t180 => (if t180.length + y177.length < 140737488355328 then (some (t180 ++ y177)) else (none)))) else (none)))) else (none))) else (none)))) else (none)))) else (none))) else (none))))) else (none)))) else (none))) else (none))) else (none)) else (none)) = some r := by first | (rw [hji20] at H; exact H) | (simp only [hji20] at H ⊢; exact H)
        have hji20_ : (if (wrap64 (a0_4 - 13)) < 0 then 0 else (wrap64 (a0_4 - 13))) = ji20 := hji20
        by_cases c21 : 0 ≤ (ji20)
        · rw [if_pos c21] at H
          have c21b0 := eq_true c21
          have c21b1 : decide (0 ≤ (ji20)) = true := decide_eq_true c21
          clear c21
          by_cases c22 : x9_1.length + (ji20 : Int).toNat < 140737488355328
          · rw [if_pos c22] at H
            have LMc22 := Aside0.mk c22
            clear c22
            obtain ⟨y132, hy132⟩ : ∃ y_ : List Int, y_ = (x9_1 ++ List.replicate (ji20 : Int).toNat 0) := ⟨_, rfl⟩
            replace H : (if y132.length < 140737488355328 then ((some (y132 ++ [0] : List Int)).bind fun y135 => (if y135.length + a3.size < 140737488355328 then ((some (y135 ++ bytesOf a3 : List Int)).bind fun y138 => ((some (([0, 0, 0, 0, 0] : List Int) : List Int)).bind fun y141 => (if y138.length + y141.length < 140737488355328 then ((some (y138 ++ y141 : List Int)).bind fun y144 => ((some (([4, 0] : List Int) : List Int)).bind fun y147 => ((spec_Fixed.f k1 (IntKind.u64.wrap ((y144.length : Int))) 4 false).bind fun t150 => (if y147.length + t150.length < 140737488355328 then ((some (y147 ++ t150 : List Int)).bind fun y153 => (if y153.length + y144.length < 140737488355328 then ((some (y153 ++ y144 : List Int)).bind fun y156 => ((some (([0, 9, 2] : List Int) : List Int)).bind fun y159 => (if y156.length + y159.length < 140737488355328 then ((some (y156 ++ y159 : List Int)).bind fun y162 => ((spec_Fixed.f k1 a1 8 false).bind fun t165 => (if y162.length + t165.length < 140737488355328 then ((some (y162 ++ t165 : List Int)).bind fun y168 => (if y168.length + l2.length < 140737488355328 then ((some (y168 ++ l2 : List Int)).bind fun y171 => ((some (([0, 1, 1] : List Int) : List Int)).bind fun y174 => (if y171.length + y174.length < 140737488355328 then ((some (y171 ++ y174 : List Int)).bind fun y177 => ((spec_Fixed.f k1 (IntKind.u64.wrap ((y177.length : Int))) 4 false).bind fun t180 => (if t180.length + y177.length < 140737488355328 then (some (t180 ++ y177)) else (none)))) else (none)))) else (none))) else (none)))) else (none)))) else (none))) else (none))))) else (none)))) else (none))) else (none)) = some r := by first | (rw [hy132]; with_reducible exact H) | (have H2_ := (Option.bind_some _ _).symm.trans H; rw [hy132]; with_reducible exact H2_) | (have H2_ := (Option.bind_some _ _).symm.trans H; with_reducible exact H2_) | with_reducible exact H | (rw [hy132]; exact H) | exact H
            have Ny132 := Aside0.mk hy132
            clear hy132
            by_cases c23 : y132.length < 140737488355328
            · rw [if_pos c23] at H
              have LMc23 := Aside0.mk c23
              clear c23
              obtain ⟨y135, hy135⟩ : ∃ y_ : List Int, y_ = (y132 ++ [0]) := ⟨_, rfl⟩
              replace H : (if y135.length + a3.size < 140737488355328 then ((some (y135 ++ bytesOf a3 : List Int)).bind fun y138 => ((some (([0, 0, 0, 0, 0] : List Int) : List Int)).bind fun y141 => (if y138.length + y141.length < 140737488355328 then ((some (y138 ++ y141 : List Int)).bind fun y144 => ((some (([4, 0] : List Int) : List Int)).bind fun y147 => ((spec_Fixed.f k1 (IntKind.u64.wrap ((y144.length : Int))) 4 false).bind fun t150 => (if y147.length + t150.length < 140737488355328 then ((some (y147 ++ t150 : List Int)).bind fun y153 => (if y153.length + y144.length < 140737488355328 then ((some (y153 ++ y144 : List Int)).bind fun y156 => ((some (([0, 9, 2] : List Int) : List Int)).bind fun y159 => (if y156.length + y159.length < 140737488355328 then ((some (y156 ++ y159 : List Int)).bind fun y162 => ((spec_Fixed.f k1 a1 8 false).bind fun t165 => (if y162.length + t165.length < 140737488355328 then ((some (y162 ++ t165 : List Int)).bind fun y168 => (if y168.length + l2.length < 140737488355328 then ((some (y168 ++ l2 : List Int)).bind fun y171 => ((some (([0, 1, 1] : List Int) : List Int)).bind fun y174 => (if y171.length + y174.length < 140737488355328 then ((some (y171 ++ y174 : List Int)).bind fun y177 => ((spec_Fixed.f k1 (IntKind.u64.wrap ((y177.length : Int))) 4 false).bind fun t180 => (if t180.length + y177.length < 140737488355328 then (some (t180 ++ y177)) else (none)))) else (none)))) else (none))) else (none)))) else (none)))) else (none))) else (none))))) else (none)))) else (none)) = some r := by first | (rw [hy135]; with_reducible exact H) | (have H2_ := (Option.bind_some _ _).symm.trans H; rw [hy135]; with_reducible exact H2_) | (have H2_ := (Option.bind_some _ _).symm.trans H; with_reducible exact H2_) | with_reducible exact H | (rw [hy135]; exact H) | exact H
              have Ny135 := Aside0.mk hy135
              clear hy135
              by_cases c24 : y135.length + a3.size < 140737488355328
              · rw [if_pos c24] at H
                have LMc24 := Aside0.mk c24
                clear c24
                obtain ⟨y138, hy138⟩ : ∃ y_ : List Int, y_ = (y135 ++ bytesOf a3) := ⟨_, rfl⟩
                replace H : ((some (([0, 0, 0, 0, 0] : List Int) : List Int)).bind fun y141 => (if y138.length + y141.length < 140737488355328 then ((some (y138 ++ y141 : List Int)).bind fun y144 => ((some (([4, 0] : List Int) : List Int)).bind fun y147 => ((spec_Fixed.f k1 (IntKind.u64.wrap ((y144.length : Int))) 4 false).bind fun t150 => (if y147.length + t150.length < 140737488355328 then ((some (y147 ++ t150 : List Int)).bind fun y153 => (if y153.length + y144.length < 140737488355328 then ((some (y153 ++ y144 : List Int)).bind fun y156 => ((some (([0, 9, 2] : List Int) : List Int)).bind fun y159 => (if y156.length + y159.length < 140737488355328 then ((some (y156 ++ y159 : List Int)).bind fun y162 => ((spec_Fixed.f k1 a1 8 false).bind fun t165 => (if y162.length + t165.length < 140737488355328 then ((some (y162 ++ t165 : List Int)).bind fun y168 => (if y168.length + l2.length < 140737488355328 then ((some (y168 ++ l2 : List Int)).bind fun y171 => ((some (([0, 1, 1] : List Int) : List Int)).bind fun y174 => (if y171.length + y174.length < 140737488355328 then ((some (y171 ++ y174 : List Int)).bind fun y177 => ((spec_Fixed.f k1 (IntKind.u64.wrap ((y177.length : Int))) 4 false).bind fun t180 => (if t180.length + y177.length < 140737488355328 then (some (t180 ++ y177)) else (none)))) else (none)))) else (none))) else (none)))) else (none)))) else (none))) else (none))))) else (none))) = some r := by first | (rw [hy138]; with_reducible exact H) | (have H2_ := (Option.bind_some _ _).symm.trans H; rw [hy138]; with_reducible exact H2_) | (have H2_ := (Option.bind_some _ _).symm.trans H; with_reducible exact H2_) | with_reducible exact H | (rw [hy138]; exact H) | exact H
                have Ny138 := Aside0.mk hy138
                clear hy138
                obtain ⟨y141, hy141⟩ : ∃ y_ : List Int, y_ = (([0, 0, 0, 0, 0] : List Int)) := ⟨_, rfl⟩
                replace H : (if y138.length + y141.length < 140737488355328 then ((some (y138 ++ y141 : List Int)).bind fun y144 => ((some (([4, 0] : List Int) : List Int)).bind fun y147 => ((spec_Fixed.f k1 (IntKind.u64.wrap ((y144.length : Int))) 4 false).bind fun t150 => (if y147.length + t150.length < 140737488355328 then ((some (y147 ++ t150 : List Int)).bind fun y153 => (if y153.length + y144.length < 140737488355328 then ((some (y153 ++ y144 : List Int)).bind fun y156 => ((some (([0, 9, 2] : List Int) : List Int)).bind fun y159 => (if y156.length + y159.length < 140737488355328 then ((some (y156 ++ y159 : List Int)).bind fun y162 => ((spec_Fixed.f k1 a1 8 false).bind fun t165 => (if y162.length + t165.length < 140737488355328 then ((some (y162 ++ t165 : List Int)).bind fun y168 => (if y168.length + l2.length < 140737488355328 then ((some (y168 ++ l2 : List Int)).bind fun y171 => ((some (([0, 1, 1] : List Int) : List Int)).bind fun y174 => (if y171.length + y174.length < 140737488355328 then ((some (y171 ++ y174 : List Int)).bind fun y177 => ((spec_Fixed.f k1 (IntKind.u64.wrap ((y177.length : Int))) 4 false).bind fun t180 => (if t180.length + y177.length < 140737488355328 then (some (t180 ++ y177)) else (none)))) else (none)))) else (none))) else (none)))) else (none)))) else (none))) else (none))))) else (none)) = some r := by first | (rw [hy141]; with_reducible exact H) | (have H2_ := (Option.bind_some _ _).symm.trans H; rw [hy141]; with_reducible exact H2_) | (have H2_ := (Option.bind_some _ _).symm.trans H; with_reducible exact H2_) | with_reducible exact H | (rw [hy141]; exact H) | exact H
                have Ny141 := Aside0.mk hy141
                clear hy141
                by_cases c25 : y138.length + y141.length < 140737488355328
                · rw [if_pos c25] at H
                  have LMc25 := Aside0.mk c25
                  clear c25
                  obtain ⟨y144, hy144⟩ : ∃ y_ : List Int, y_ = (y138 ++ y141) := ⟨_, rfl⟩
                  replace H : ((some (([4, 0] : List Int) : List Int)).bind fun y147 => ((spec_Fixed.f k1 (IntKind.u64.wrap ((y144.length : Int))) 4 false).bind fun t150 => (if y147.length + t150.length < 140737488355328 then ((some (y147 ++ t150 : List Int)).bind fun y153 => (if y153.length + y144.length < 140737488355328 then ((some (y153 ++ y144 : List Int)).bind fun y156 => ((some (([0, 9, 2] : List Int) : List Int)).bind fun y159 => (if y156.length + y159.length < 140737488355328 then ((some (y156 ++ y159 : List Int)).bind fun y162 => ((spec_Fixed.f k1 a1 8 false).bind fun t165 => (if y162.length + t165.length < 140737488355328 then ((some (y162 ++ t165 : List Int)).bind fun y168 => (if y168.length + l2.length < 140737488355328 then ((some (y168 ++ l2 : List Int)).bind fun y171 => ((some (([0, 1, 1] : List Int) : List Int)).bind fun y174 => (if y171.length + y174.length < 140737488355328 then ((some (y171 ++ y174 : List Int)).bind fun y177 => ((spec_Fixed.f k1 (IntKind.u64.wrap ((y177.length : Int))) 4 false).bind fun t180 => (if t180.length + y177.length < 140737488355328 then (some (t180 ++ y177)) else (none)))) else (none)))) else (none))) else (none)))) else (none)))) else (none))) else (none)))) = some r := by first | (rw [hy144]; with_reducible exact H) | (have H2_ := (Option.bind_some _ _).symm.trans H; rw [hy144]; with_reducible exact H2_) | (have H2_ := (Option.bind_some _ _).symm.trans H; with_reducible exact H2_) | with_reducible exact H | (rw [hy144]; exact H) | exact H
                  have Ny144 := Aside0.mk hy144
                  clear hy144
                  obtain ⟨y147, hy147⟩ : ∃ y_ : List Int, y_ = (([4, 0] : List Int)) := ⟨_, rfl⟩
                  replace H : ((spec_Fixed.f k1 (IntKind.u64.wrap ((y144.length : Int))) 4 false).bind fun t150 => (if y147.length + t150.length < 140737488355328 then ((some (y147 ++ t150 : List Int)).bind fun y153 => (if y153.length + y144.length < 140737488355328 then ((some (y153 ++ y144 : List Int)).bind fun y156 => ((some (([0, 9, 2] : List Int) : List Int)).bind fun y159 => (if y156.length + y159.length < 140737488355328 then ((some (y156 ++ y159 : List Int)).bind fun y162 => ((spec_Fixed.f k1 a1 8 false).bind fun t165 => (if y162.length + t165.length < 140737488355328 then ((some (y162 ++ t165 : List Int)).bind fun y168 => (if y168.length + l2.length < 140737488355328 then ((some (y168 ++ l2 : List Int)).bind fun y171 => ((some (([0, 1, 1] : List Int) : List Int)).bind fun y174 => (if y171.length + y174.length < 140737488355328 then ((some (y171 ++ y174 : List Int)).bind fun y177 => ((spec_Fixed.f k1 (IntKind.u64.wrap ((y177.length : Int))) 4 false).bind fun t180 => (if t180.length + y177.length < 140737488355328 then (some (t180 ++ y177)) else (none)))) else (none)))) else (none))) else (none)))) else (none)))) else (none))) else (none))) = some r := by first | (rw [hy147]; with_reducible exact H) | (have H2_ := (Option.bind_some _ _).symm.trans H; rw [hy147]; with_reducible exact H2_) | (have H2_ := (Option.bind_some _ _).symm.trans H; with_reducible exact H2_) | with_reducible exact H | (rw [hy147]; exact H) | exact H
                  have Ny147 := Aside0.mk hy147
                  clear hy147
                  replace H := Option.bind_eq_some_iff.mp H
                  obtain ⟨t150, A260, H⟩ := H
                  replace H : (if y147.length + t150.length < 140737488355328 then ((some (y147 ++ t150 : List Int)).bind fun y153 => (if y153.length + y144.length < 140737488355328 then ((some (y153 ++ y144 : List Int)).bind fun y156 => ((some (([0, 9, 2] : List Int) : List Int)).bind fun y159 => (if y156.length + y159.length < 140737488355328 then ((some (y156 ++ y159 : List Int)).bind fun y162 => ((spec_Fixed.f k1 a1 8 false).bind fun t165 => (if y162.length + t165.length < 140737488355328 then ((some (y162 ++ t165 : List Int)).bind fun y168 => (if y168.length + l2.length < 140737488355328 then ((some (y168 ++ l2 : List Int)).bind fun y171 => ((some (([0, 1, 1] : List Int) : List Int)).bind fun y174 => (if y171.length + y174.length < 140737488355328 then ((some (y171 ++ y174 : List Int)).bind fun y177 => ((spec_Fixed.f k1 (IntKind.u64.wrap ((y177.length : Int))) 4 false).bind fun t180 => (if t180.length + y177.length < 140737488355328 then (some (t180 ++ y177)) else (none)))) else (none)))) else (none))) else (none)))) else (none)))) else (none))) else (none)) = some r := H
                  have A26 := Aside0.mk A260
                  clear A260
                  by_cases c27 : y147.length + t150.length < 140737488355328
                  · rw [if_pos c27] at H
                    have LMc27 := Aside0.mk c27
                    clear c27
                    obtain ⟨y153, hy153⟩ : ∃ y_ : List Int, y_ = (y147 ++ t150) := ⟨_, rfl⟩
                    replace H : (if y153.length + y144.length < 140737488355328 then ((some (y153 ++ y144 : List Int)).bind fun y156 => ((some (([0, 9, 2] : List Int) : List Int)).bind fun y159 => (if y156.length + y159.length < 140737488355328 then ((some (y156 ++ y159 : List Int)).bind fun y162 => ((spec_Fixed.f k1 a1 8 false).bind fun t165 => (if y162.length + t165.length < 140737488355328 then ((some (y162 ++ t165 : List Int)).bind fun y168 => (if y168.length + l2.length < 140737488355328 then ((some (y168 ++ l2 : List Int)).bind fun y171 => ((some (([0, 1, 1] : List Int) : List Int)).bind fun y174 => (if y171.length + y174.length < 140737488355328 then ((some (y171 ++ y174 : List Int)).bind fun y177 => ((spec_Fixed.f k1 (IntKind.u64.wrap ((y177.length : Int))) 4 false).bind fun t180 => (if t180.length + y177.length < 140737488355328 then (some (t180 ++ y177)) else (none)))) else (none)))) else (none))) else (none)))) else (none)))) else (none)) = some r := by first | (rw [hy153]; with_reducible exact H) | (have H2_ := (Option.bind_some _ _).symm.trans H; rw [hy153]; with_reducible exact H2_) | (have H2_ := (Option.bind_some _ _).symm.trans H; with_reducible exact H2_) | with_reducible exact H | (rw [hy153]; exact H) | exact H
                    have Ny153 := Aside0.mk hy153
                    clear hy153
                    by_cases c28 : y153.length + y144.length < 140737488355328
                    · rw [if_pos c28] at H
                      have LMc28 := Aside0.mk c28
                      clear c28
                      obtain ⟨y156, hy156⟩ : ∃ y_ : List Int, y_ = (y153 ++ y144) := ⟨_, rfl⟩
                      replace H : ((some (([0, 9, 2] : List Int) : List Int)).bind fun y159 => (if y156.length + y159.length < 140737488355328 then ((some (y156 ++ y159 : List Int)).bind fun y162 => ((spec_Fixed.f k1 a1 8 false).bind fun t165 => (if y162.length + t165.length < 140737488355328 then ((some (y162 ++ t165 : List Int)).bind fun y168 => (if y168.length + l2.length < 140737488355328 then ((some (y168 ++ l2 : List Int)).bind fun y171 => ((some (([0, 1, 1] : List Int) : List Int)).bind fun y174 => (if y171.length + y174.length < 140737488355328 then ((some (y171 ++ y174 : List Int)).bind fun y177 => ((spec_Fixed.f k1 (IntKind.u64.wrap ((y177.length : Int))) 4 false).bind fun t180 => (if t180.length + y177.length < 140737488355328 then (some (t180 ++ y177)) else (none)))) else (none)))) else (none))) else (none)))) else (none))) = some r := by first | (rw [hy156]; with_reducible exact H) | (have H2_ := (Option.bind_some _ _).symm.trans H; rw [hy156]; with_reducible exact H2_) | (have H2_ := (Option.bind_some _ _).symm.trans H; with_reducible exact H2_) | with_reducible exact H | (rw [hy156]; exact H) | exact H
                      have Ny156 := Aside0.mk hy156
                      clear hy156
                      obtain ⟨y159, hy159⟩ : ∃ y_ : List Int, y_ = (([0, 9, 2] : List Int)) := ⟨_, rfl⟩
                      replace H : (if y156.length + y159.length < 140737488355328 then ((some (y156 ++ y159 : List Int)).bind fun y162 => ((spec_Fixed.f k1 a1 8 false).bind fun t165 => (if y162.length + t165.length < 140737488355328 then ((some (y162 ++ t165 : List Int)).bind fun y168 => (if y168.length + l2.length < 140737488355328 then ((some (y168 ++ l2 : List Int)).bind fun y171 => ((some (([0, 1, 1] : List Int) : List Int)).bind fun y174 => (if y171.length + y174.length < 140737488355328 then ((some (y171 ++ y174 : List Int)).bind fun y177 => ((spec_Fixed.f k1 (IntKind.u64.wrap ((y177.length : Int))) 4 false).bind fun t180 => (if t180.length + y177.length < 140737488355328 then (some (t180 ++ y177)) else (none)))) else (none)))) else (none))) else (none)))) else (none)) = some r := by first | (rw [hy159]; with_reducible exact H) | (have H2_ := (Option.bind_some _ _).symm.trans H; rw [hy159]; with_reducible exact H2_) | (have H2_ := (Option.bind_some _ _).symm.trans H; with_reducible exact H2_) | with_reducible exact H | (rw [hy159]; exact H) | exact H
                      have Ny159 := Aside0.mk hy159
                      clear hy159
                      by_cases c29 : y156.length + y159.length < 140737488355328
                      · rw [if_pos c29] at H
                        have LMc29 := Aside0.mk c29
                        clear c29
                        obtain ⟨y162, hy162⟩ : ∃ y_ : List Int, y_ = (y156 ++ y159) := ⟨_, rfl⟩
                        replace H : ((spec_Fixed.f k1 a1 8 false).bind fun t165 => (if y162.length + t165.length < 140737488355328 then ((some (y162 ++ t165 : List Int)).bind fun y168 => (if y168.length + l2.length < 140737488355328 then ((some (y168 ++ l2 : List Int)).bind fun y171 => ((some (([0, 1, 1] : List Int) : List Int)).bind fun y174 => (if y171.length + y174.length < 140737488355328 then ((some (y171 ++ y174 : List Int)).bind fun y177 => ((spec_Fixed.f k1 (IntKind.u64.wrap ((y177.length : Int))) 4 false).bind fun t180 => (if t180.length + y177.length < 140737488355328 then (some (t180 ++ y177)) else (none)))) else (none)))) else (none))) else (none))) = some r := by first | (rw [hy162]; with_reducible exact H) | (have H2_ := (Option.bind_some _ _).symm.trans H; rw [hy162]; with_reducible exact H2_) | (have H2_ := (Option.bind_some _ _).symm.trans H; with_reducible exact H2_) | with_reducible exact H | (rw [hy162]; exact H) | exact H
                        have Ny162 := Aside0.mk hy162
                        clear hy162
                        replace H := Option.bind_eq_some_iff.mp H
                        obtain ⟨t165, A300, H⟩ := H
                        replace H : (if y162.length + t165.length < 140737488355328 then ((some (y162 ++ t165 : List Int)).bind fun y168 => (if y168.length + l2.length < 140737488355328 then ((some (y168 ++ l2 : List Int)).bind fun y171 => ((some (([0, 1, 1] : List Int) : List Int)).bind fun y174 => (if y171.length + y174.length < 140737488355328 then ((some (y171 ++ y174 : List Int)).bind fun y177 => ((spec_Fixed.f k1 (IntKind.u64.wrap ((y177.length : Int))) 4 false).bind fun t180 => (if t180.length + y177.length < 140737488355328 then (some (t180 ++ y177)) else (none)))) else (none)))) else (none))) else (none)) = some r := H
                        have A30 := Aside0.mk A300
                        clear A300
                        by_cases c31 : y162.length + t165.length < 140737488355328
                        · rw [if_pos c31] at H
                          have LMc31 := Aside0.mk c31
                          clear c31
                          obtain ⟨y168, hy168⟩ : ∃ y_ : List Int, y_ = (y162 ++ t165) := ⟨_, rfl⟩
                          replace H : (if y168.length + l2.length < 140737488355328 then ((some (y168 ++ l2 : List Int)).bind fun y171 => ((some (([0, 1, 1] : List Int) : List Int)).bind fun y174 => (if y171.length + y174.length < 140737488355328 then ((some (y171 ++ y174 : List Int)).bind fun y177 => ((spec_Fixed.f k1 (IntKind.u64.wrap ((y177.length : Int))) 4 false).bind fun t180 => (if t180.length + y177.length < 140737488355328 then (some (t180 ++ y177)) else (none)))) else (none)))) else (none)) = some r := by first | (rw [hy168]; with_reducible exact H) | (have H2_ := (Option.bind_some _ _).symm.trans H; rw [hy168]; with_reducible exact H2_) | (have H2_ := (Option.bind_some _ _).symm.trans H; with_reducible exact H2_) | with_reducible exact H | (rw [hy168]; exact H) | exact H
                          have Ny168 := Aside0.mk hy168
                          clear hy168
                          by_cases c32 : y168.length + l2.length < 140737488355328
                          · rw [if_pos c32] at H
                            have LMc32 := Aside0.mk c32
                            clear c32
                            obtain ⟨y171, hy171⟩ : ∃ y_ : List Int, y_ = (y168 ++ l2) := ⟨_, rfl⟩
                            replace H : ((some (([0, 1, 1] : List Int) : List Int)).bind fun y174 => (if y171.length + y174.length < 140737488355328 then ((some (y171 ++ y174 : List Int)).bind fun y177 => ((spec_Fixed.f k1 (IntKind.u64.wrap ((y177.length : Int))) 4 false).bind fun t180 => (if t180.length + y177.length < 140737488355328 then (some (t180 ++ y177)) else (none)))) else (none))) = some r := by first | (rw [hy171]; with_reducible exact H) | (have H2_ := (Option.bind_some _ _).symm.trans H; rw [hy171]; with_reducible exact H2_) | (have H2_ := (Option.bind_some _ _).symm.trans H; with_reducible exact H2_) | with_reducible exact H | (rw [hy171]; exact H) | exact H
                            have Ny171 := Aside0.mk hy171
                            clear hy171
                            obtain ⟨y174, hy174⟩ : ∃ y_ : List Int, y_ = (([0, 1, 1] : List Int)) := ⟨_, rfl⟩
                            replace H : (if y171.length + y174.length < 140737488355328 then ((some (y171 ++ y174 : List Int)).bind fun y177 => ((spec_Fixed.f k1 (IntKind.u64.wrap ((y177.length : Int))) 4 false).bind fun t180 => (if t180.length + y177.length < 140737488355328 then (some (t180 ++ y177)) else (none)))) else (none)) = some r := by first | (rw [hy174]; with_reducible exact H) | (have H2_ := (Option.bind_some _ _).symm.trans H; rw [hy174]; with_reducible exact H2_) | (have H2_ := (Option.bind_some _ _).symm.trans H; with_reducible exact H2_) | with_reducible exact H | (rw [hy174]; exact H) | exact H
                            have Ny174 := Aside0.mk hy174
                            clear hy174
                            by_cases c33 : y171.length + y174.length < 140737488355328
                            · rw [if_pos c33] at H
                              have LMc33 := Aside0.mk c33
                              clear c33
                              obtain ⟨y177, hy177⟩ : ∃ y_ : List Int, y_ = (y171 ++ y174) := ⟨_, rfl⟩
                              replace H : ((spec_Fixed.f k1 (IntKind.u64.wrap ((y177.length : Int))) 4 false).bind fun t180 => (if t180.length + y177.length < 140737488355328 then (some (t180 ++ y177)) else (none))) = some r := by first | (rw [hy177]; with_reducible exact H) | (have H2_ := (Option.bind_some _ _).symm.trans H; rw [hy177]; with_reducible exact H2_) | (have H2_ := (Option.bind_some _ _).symm.trans H; with_reducible exact H2_) | with_reducible exact H | (rw [hy177]; exact H) | exact H
                              have Ny177 := Aside0.mk hy177
                              clear hy177
                              replace H := Option.bind_eq_some_iff.mp H
                              obtain ⟨t180, A340, H⟩ := H
                              replace H : (if t180.length + y177.length < 140737488355328 then (some (t180 ++ y177)) else (none)) = some r := H
                              have A34 := Aside0.mk A340
                              clear A340
                              by_cases c35 : t180.length + y177.length < 140737488355328
                              · rw [if_pos c35] at H
                                have LMc35 := Aside0.mk c35
                                clear c35
                                obtain ⟨y183, hy183⟩ : ∃ y_ : List Int, y_ = (t180 ++ y177) := ⟨_, rfl⟩
                                replace H : (some y183) = some r := by first | (rw [hy183]; with_reducible exact H) | (have H2_ := (Option.bind_some _ _).symm.trans H; rw [hy183]; with_reducible exact H2_) | (have H2_ := (Option.bind_some _ _).symm.trans H; with_reducible exact H2_) | with_reducible exact H | (rw [hy183]; exact H) | exact H
                                have Ny183 := Aside0.mk hy183
                                clear hy183
                                obtain rfl := Option.some.inj H
                                have hcz36_0 : wr.cell? ⟨gb121, 0, none⟩ = some (.int .i64 a0_0) := (blk_cell BK121.out 0).trans rfl
                                have hcz36_1 : wr.cell? ⟨gb121, 1, none⟩ = some (.int .i64 a0_1) := (blk_cell BK121.out 1).trans rfl
                                have hcz36_2 : wr.cell? ⟨gb121, 2, none⟩ = some (.int .i64 a0_2) := (blk_cell BK121.out 2).trans rfl
                                have hcz36_3 : wr.cell? ⟨gb121, 3, none⟩ = some (.int .i64 a0_3) := (blk_cell BK121.out 3).trans rfl
                                have hcz36_4 : wr.cell? ⟨gb121, 4, none⟩ = some (.int .i64 a0_4) := (blk_cell BK121.out 4).trans rfl
                                have hfz36_0 := blk_frozen BK121.out 0
                                have hfz36_1 := blk_frozen BK121.out 1
                                have hfz36_2 := blk_frozen BK121.out 2
                                have hfz36_3 := blk_frozen BK121.out 3
                                have hfz36_4 := blk_frozen BK121.out 4
                                go_wp2_with (first | (at_builtin; refine Kd.R_append_zeros (Kd.int .u8) (w0 := w) w.heap.size rfl (.tmp 46) (.tmp 50) 23 3 5 (.int .u8 0) 1 rfl Tryd.underlying23 Tryd.underlying3 info5 rfl (by decide) (by omega) u9 x9_1 0 (ji20 : Int) (fun k_ => some k_ ≠ (.slice Ao11 y125.length co11 : Value).ownBlock) rfl rfl rfl ?aF ?aO (of_decide_eq_true qA) ?aB ?aS ?aL ?_; (case aB => exact (qG GE121.out)); (case aF => exact (fun k_ hk => Kd.fresh' (Kd.R_lt (qR HO_29.out)) k_ hk)); (case aO => exact (qR HO_9.out)); (case aS => exact (below_size (qG GE121.out))); (case aL => have := LMc22.out; omega); intro v133 w37 ho hb hg hat; rw [← Ny132.out] at ho; have n0_ := Aside0.mk (Kd.R_after (ok := (fun _ => True)) (by (with_reducible repeat (first | apply Kd.R_alloc | apply Kd.R_drewN | apply Kd.R_drew)); exact Kd.R_mono HO_29.out (fun _ hk => ⟨trivial, hk⟩)) hg hat); have n1_ := Aside0.mk (blk_grown (g := gb121) (o := .cells #[.int .i64 a0_0, .int .i64 a0_1, .int .i64 a0_2, .int .i64 a0_3, .int .i64 a0_4] 31 (0, 0)) (qK BK121.out) hg (Kd.R_ne HO_9.out BK121.out (by decide))); have n2_ := Aside0.mk (hb); have n3_ := Aside0.mk (ho); clear HO_29; clear BK121; clear HB; clear HO_9; have HO_29 := n0_; have BK121 := n1_; have HB := n2_; have HO134 := n3_; clear n0_ n1_ n2_ n3_; clear ho hb hg hat) | ((with_reducible refine gate_builtin (b := .append) (xs := #[.tmp 52, .tmp 53]) rfl ?_); at_builtin; refine Kd.R_append (Kd.int .u8) (w0 := w) w.heap.size rfl (.tmp 52) (.tmp 53) 23 5 (.int .u8 0) 1 rfl Tryd.underlying23 info5 rfl (by decide) (by omega) v133 y132 0 [.int .u8 0] (fun k_ => some k_ ≠ (.slice Ao11 y125.length co11 : Value).ownBlock) (fun _ => False) rfl rfl ?aP (fun _ hk => hk.elim) ?aF ?aO ?aB ?aS ?aL ?_; (case aP => exact rfl); (case aB => exact (qG GE121.out)); (case aF => exact (fun k_ hk => Kd.fresh' (Kd.R_lt (qR HO_29.out)) k_ hk)); (case aO => exact (qR HO134.out)); (case aS => exact (below_size (qG GE121.out))); (case aL => have := LMc23.out; omega); intro v136 w38 ho hb hg hat; rw [← Ny135.out] at ho; have n0_ := Aside0.mk (Kd.R_after (ok := (fun _ => True)) (qR HO_29.out) hg hat); have n1_ := Aside0.mk (blk_grown (g := gb121) (o := .cells #[.int .i64 a0_0, .int .i64 a0_1, .int .i64 a0_2, .int .i64 a0_3, .int .i64 a0_4] 31 (0, 0)) (qK BK121.out) hg (Kd.R_ne HO134.out BK121.out (by decide))); have n2_ := Aside0.mk (hb); have n3_ := Aside0.mk (ho); clear HO_29; clear BK121; clear HB; clear HO134; have HO_29 := n0_; have BK121 := n1_; have HB := n2_; have HO137 := n3_; clear n0_ n1_ n2_ n3_; clear ho hb hg hat) | (at_builtin; refine print_append_str (w0 := w) w.heap.size rfl (.tmp 54) _ 23 9 5 rfl Tryd.underlying23 Tryd.underlying9 info5 v136 y135 a3 rfl rfl ?aO ?aB ?aS ?aL ?_; (case aB => exact (qG GE121.out)); (case aO => exact (Kd.own_of_R (by (with_reducible repeat (first | apply Kd.R_alloc | apply Kd.R_drewN | apply Kd.R_drew)); exact Kd.R_mono HO137.out (fun _ hk => trivial)))); (case aS => exact (below_size (qG GE121.out))); (case aL => have := LMc24.out; omega); intro v139 w39 ho0 hb hg; have ho := Kd.R_of_own (h1 := fun _ => rfl) (ok := fun _ => True) ho0 (fun _ _ => trivial); clear ho0; have hat := True.intro; rw [← Ny138.out] at ho; change Kd.R (Kd.int .u8) 5 w39 w.heap.size (fun _ => True) v139 y138 at ho; have n0_ := Aside0.mk (blk_grown (g := gb121) (o := .cells #[.int .i64 a0_0, .int .i64 a0_1, .int .i64 a0_2, .int .i64 a0_3, .int .i64 a0_4] 31 (0, 0)) (qK BK121.out) hg (Kd.R_ne HO137.out BK121.out (by decide))); have n1_ := Aside0.mk (hb); have n2_ := Aside0.mk (ho); clear BK121; clear HB; clear HO137; have BK121 := n0_; have HB := n1_; have HO140 := n2_; clear n0_ n1_ n2_; clear ho hb hg hat) | ((with_reducible refine gate_dst (N := 57) rfl ?_); refine Kd.R_lit (Kd.int .u8) _ 5 ?hg (N := 57) ?hd (xs := ([0, 0, 0, 0, 0] : List Int)) (inner := [.int .u8 0, .int .u8 0, .int .u8 0, .int .u8 0, .int .u8 0]) (ok := fun _ => True) (okp := fun _ => True) ?hr ?hp (fun _ hk => hk) trivial (Below.refl _ _) (Nat.le_refl _) (by simp) ?_; (case hd => rfl); (case hg => rfl); (case hr => first | (go_simp; done) | (go_simp; rfl)); (case hp => exact (Reps.one (show Kd.M (Kd.int .u8) _ _ _ 0 [.int .u8 0] from rfl) (Reps.one (show Kd.M (Kd.int .u8) _ _ _ 0 [.int .u8 0] from rfl) (Reps.one (show Kd.M (Kd.int .u8) _ _ _ 0 [.int .u8 0] from rfl) (Reps.one (show Kd.M (Kd.int .u8) _ _ _ 0 [.int .u8 0] from rfl) (Reps.one (show Kd.M (Kd.int .u8) _ _ _ 0 [.int .u8 0] from rfl) (Reps.none _ _))))))); intro v142 w40 ho41 hb hg_ hnew_; clear hg_ hnew_; (first | rw [← Ny141.out] at ho41 | (simp only [Int.reduceToNat] at ho41; rw [← Ny141.out] at ho41)); have n0_ := Aside0.mk (Kd.R_elder' (qR HO140.out) (Kd.R_base ho41) hb); have n1_ := Aside0.mk (Kd.R_lower (Kd.R_new' ho41 (Kd.R_lt (qR HO140.out))) (below_size (qG GE121.out))); have n2_ := Aside0.mk (blk_below (g := gb121) (o := .cells #[.int .i64 a0_0, .int .i64 a0_1, .int .i64 a0_2, .int .i64 a0_3, .int .i64 a0_4] 31 (0, 0)) (qK BK121.out) hb); have n3_ := Aside0.mk (below_step (qG GE121.out) hb); clear HO140; clear BK121; clear HB; have HO140 := n0_; have HO143 := n1_; have BK121 := n2_; have HB := n3_; clear n0_ n1_ n2_ n3_; clear hb ho41; obtain ⟨Ao43, co43, eo43⟩ := Kd.R_slice HO143.out; subst eo43) | ((with_reducible refine gate_builtin (b := .append) (xs := #[.tmp 56, .tmp 57]) rfl ?_); at_builtin; refine Kd.R_append_rows (Kd.int .u8) (w0 := w) w.heap.size rfl (.tmp 56) (.tmp 57) 23 5 (.int .u8 0) 1 rfl Tryd.underlying23 info5 rfl (by decide) (by omega) v139 y138 y141 _ _ _ (fun k_ => some k_ ≠ (.slice Ao43 y141.length co43 : Value).ownBlock) (fun _ => False) rfl rfl ?aO ?aR (fun _ _ h => h) (fun _ h => h.elim) ?aF ?aB ?aS ?aL ?_; (case aR => exact qC (Kd.R_reads' HO143.out).2.2); (case aB => exact (qG GE121.out)); (case aF => exact (fun k_ hk => Kd.fresh' (Kd.R_lt (qR HO143.out)) k_ hk)); (case aO => exact (by (with_reducible repeat (first | apply Kd.R_alloc | apply Kd.R_drewN | apply Kd.R_drew)); exact Kd.R_mono HO140.out (fun _ hk => hk.2))); (case aS => exact (below_size (qG GE121.out))); (case aL => have := LMc25.out; omega); intro v145 w42 ho hb hg hat; rw [← Ny144.out] at ho; have n0_ := Aside0.mk (blk_grown (g := gb121) (o := .cells #[.int .i64 a0_0, .int .i64 a0_1, .int .i64 a0_2, .int .i64 a0_3, .int .i64 a0_4] 31 (0, 0)) (qK BK121.out) hg (Kd.R_ne HO140.out BK121.out (by decide))); have n1_ := Aside0.mk (Kd.R_after (ok := (fun _ => True)) (qR HO143.out) hg hat); have n2_ := Aside0.mk (hb); have n3_ := Aside0.mk (ho); clear BK121; clear HO143; clear HB; clear HO140; have BK121 := n0_; have HO143 := n1_; have HB := n2_; have HO146 := n3_; clear n0_ n1_ n2_ n3_; clear ho hb hg hat) | ((with_reducible refine gate_dst (N := 59) rfl ?_); refine Kd.R_lit (Kd.int .u8) _ 5 ?hg (N := 59) ?hd (xs := ([4, 0] : List Int)) (inner := [.int .u8 4, .int .u8 0]) (ok := fun _ => True) (okp := fun _ => True) ?hr ?hp (fun _ hk => hk) trivial (Below.refl _ _) (Nat.le_refl _) (by simp) ?_; (case hd => rfl); (case hg => rfl); (case hr => first | (go_simp; done) | (go_simp; rfl)); (case hp => exact (Reps.one (show Kd.M (Kd.int .u8) _ _ _ 4 [.int .u8 4] from rfl) (Reps.one (show Kd.M (Kd.int .u8) _ _ _ 0 [.int .u8 0] from rfl) (Reps.none _ _)))); intro v148 w44 ho45 hb hg_ hnew_; clear hg_ hnew_; (first | rw [← Ny147.out] at ho45 | (simp only [Int.reduceToNat] at ho45; rw [← Ny147.out] at ho45)); have n0_ := Aside0.mk (Kd.R_elder' (qR HO143.out) (Kd.R_base ho45) hb); have n1_ := Aside0.mk (Kd.R_elder' (qR HO146.out) (Kd.R_base ho45) hb); have n2_ := Aside0.mk (Kd.R_lower (Kd.R_new' (Kd.R_new' ho45 (Kd.R_lt (qR HO143.out))) (Kd.R_lt (qR HO146.out))) (below_size (qG GE121.out))); have n3_ := Aside0.mk (blk_below (g := gb121) (o := .cells #[.int .i64 a0_0, .int .i64 a0_1, .int .i64 a0_2, .int .i64 a0_3, .int .i64 a0_4] 31 (0, 0)) (qK BK121.out) hb); have n4_ := Aside0.mk (below_step (qG GE121.out) hb); clear HO143; clear HO146; clear BK121; clear HB; have HO143 := n0_; have HO146 := n1_; have HO149 := n2_; have BK121 := n3_; have HB := n4_; clear n0_ n1_ n2_ n3_ n4_; clear hb ho45; obtain ⟨Ao46, co46, eo46⟩ := Kd.R_slice HO146.out; subst eo46) | ((with_reducible refine gate_callee (f := 20) rfl ?_); refine goesL_ (some 63) rfl rfl Tryd.func20 (by kernel_rfl) rfl #[.int .u64 (IntKind.u64.wrap ((y144.length : Int))), .int .i64 4, .bool false] rfl qL ?_; (with_reducible refine (spec_Fixed.calls k1 (IntKind.u64.wrap ((y144.length : Int))) 4 false t150 _ A26.out).mono ?_); rintro e w47 ⟨v151, rfl, ho0, hb⟩; refine ⟨_, rfl, ?_⟩; have n0_ := Aside0.mk (Kd.R_elder' (qR HO143.out) (Kd.R_base ho0) hb); have n1_ := Aside0.mk (Kd.R_elder' (qR HO146.out) (Kd.R_base ho0) hb); have n2_ := Aside0.mk (Kd.R_elder' (qR HO149.out) (Kd.R_base ho0) hb); have n3_ := Aside0.mk (Kd.R_lower (Kd.R_new' (Kd.R_new' (Kd.R_new' ho0 (Kd.R_lt (qR HO143.out))) (Kd.R_lt (qR HO146.out))) (Kd.R_lt (qR HO149.out))) (below_size (qG GE121.out))); have n4_ := Aside0.mk (blk_below (g := gb121) (o := .cells #[.int .i64 a0_0, .int .i64 a0_1, .int .i64 a0_2, .int .i64 a0_3, .int .i64 a0_4] 31 (0, 0)) (qK BK121.out) hb); have n5_ := Aside0.mk (below_step (qG GE121.out) hb); clear HO143; clear HO146; clear HO149; clear BK121; clear HB; have HO143 := n0_; have HO146 := n1_; have HO149 := n2_; have HO152 := n3_; have BK121 := n4_; have HB := n5_; clear n0_ n1_ n2_ n3_ n4_ n5_; (try clear hb); (try clear hb2); (try clear hk); (try clear hi); (try clear ho0); obtain ⟨Ao49, co49, eo49⟩ := Kd.R_slice HO152.out; subst eo49) | ((with_reducible refine gate_builtin (b := .append) (xs := #[.tmp 59, .tmp 63]) rfl ?_); at_builtin; refine Kd.R_append_rows (Kd.int .u8) (w0 := w) w.heap.size rfl (.tmp 59) (.tmp 63) 23 5 (.int .u8 0) 1 rfl Tryd.underlying23 info5 rfl (by decide) (by omega) v148 y147 t150 _ _ _ (fun k_ => some k_ ≠ (.slice Ao43 y141.length co43 : Value).ownBlock ∧ some k_ ≠ (.slice Ao46 y144.length co46 : Value).ownBlock ∧ some k_ ≠ (.slice Ao49 t150.length co49 : Value).ownBlock) (fun _ => False) rfl rfl ?aO ?aR (fun _ _ h => h) (fun _ h => h.elim) ?aF ?aB ?aS ?aL ?_; (case aR => exact qC (Kd.R_reads' HO152.out).2.2); (case aB => exact (qG GE121.out)); (case aF => exact (fun k_ hk => ⟨Kd.fresh' (Kd.R_lt (qR HO143.out)) k_ hk, Kd.fresh' (Kd.R_lt (qR HO146.out)) k_ hk, Kd.fresh' (Kd.R_lt (qR HO152.out)) k_ hk⟩)); (case aO => exact (by (with_reducible repeat (first | apply Kd.R_alloc | apply Kd.R_drewN | apply Kd.R_drew)); exact Kd.R_mono HO149.out (fun _ hk => ⟨hk.1.1.2, ⟨hk.1.2, hk.2⟩⟩))); (case aS => exact (below_size (qG GE121.out))); (case aL => have := LMc27.out; omega); intro v154 w48 ho hb hg hat; rw [← Ny153.out] at ho; have n0_ := Aside0.mk (blk_grown (g := gb121) (o := .cells #[.int .i64 a0_0, .int .i64 a0_1, .int .i64 a0_2, .int .i64 a0_3, .int .i64 a0_4] 31 (0, 0)) (qK BK121.out) hg (Kd.R_ne HO149.out BK121.out (by decide))); have n1_ := Aside0.mk (Kd.R_after (ok := (fun k_ => some k_ ≠ (.slice Ao46 y144.length co46 : Value).ownBlock ∧ some k_ ≠ (.slice Ao49 t150.length co49 : Value).ownBlock)) (by (with_reducible repeat (first | apply Kd.R_alloc | apply Kd.R_drewN | apply Kd.R_drew)); exact Kd.R_mono HO143.out (fun _ hk => ⟨⟨hk.1.1.2, hk.2⟩, hk.1.2⟩)) hg hat); have n2_ := Aside0.mk (Kd.R_after (ok := (fun k_ => some k_ ≠ (.slice Ao43 y141.length co43 : Value).ownBlock ∧ some k_ ≠ (.slice Ao49 t150.length co49 : Value).ownBlock)) (by (with_reducible repeat (first | apply Kd.R_alloc | apply Kd.R_drewN | apply Kd.R_drew)); exact Kd.R_mono HO146.out (fun _ hk => ⟨⟨hk.1.1, hk.2⟩, hk.1.2⟩)) hg hat); have n3_ := Aside0.mk (Kd.R_after (ok := (fun k_ => some k_ ≠ (.slice Ao43 y141.length co43 : Value).ownBlock ∧ some k_ ≠ (.slice Ao46 y144.length co46 : Value).ownBlock)) (by (with_reducible repeat (first | apply Kd.R_alloc | apply Kd.R_drewN | apply Kd.R_drew)); exact Kd.R_mono HO152.out (fun _ hk => ⟨⟨hk.1.1.2, hk.1.2⟩, hk.2⟩)) hg hat); have n4_ := Aside0.mk (hb); have n5_ := Aside0.mk (ho); clear BK121; clear HO143; clear HO146; clear HO152; clear HB; clear HO149; have BK121 := n0_; have HO143 := n1_; have HO146 := n2_; have HO152 := n3_; have HB := n4_; have HO155 := n5_; clear n0_ n1_ n2_ n3_ n4_ n5_; clear ho hb hg hat) | ((with_reducible refine gate_builtin (b := .append) (xs := #[.tmp 64, .tmp 65]) rfl ?_); at_builtin; refine Kd.R_append_rows (Kd.int .u8) (w0 := w) w.heap.size rfl (.tmp 64) (.tmp 65) 23 5 (.int .u8 0) 1 rfl Tryd.underlying23 info5 rfl (by decide) (by omega) v154 y153 y144 _ _ _ (fun k_ => some k_ ≠ (.slice Ao43 y141.length co43 : Value).ownBlock ∧ some k_ ≠ (.slice Ao46 y144.length co46 : Value).ownBlock ∧ some k_ ≠ (.slice Ao49 t150.length co49 : Value).ownBlock) (fun _ => False) rfl rfl ?aO ?aR (fun _ _ h => h) (fun _ h => h.elim) ?aF ?aB ?aS ?aL ?_; (case aR => exact qC (Kd.R_reads' HO146.out).2.2); (case aB => exact (qG GE121.out)); (case aF => exact (fun k_ hk => ⟨Kd.fresh' (Kd.R_lt (qR HO143.out)) k_ hk, Kd.fresh' (Kd.R_lt (qR HO146.out)) k_ hk, Kd.fresh' (Kd.R_lt (qR HO152.out)) k_ hk⟩)); (case aO => exact (qR HO155.out)); (case aS => exact (below_size (qG GE121.out))); (case aL => have := LMc28.out; omega); intro v157 w50 ho hb hg hat; rw [← Ny156.out] at ho; have n0_ := Aside0.mk (blk_grown (g := gb121) (o := .cells #[.int .i64 a0_0, .int .i64 a0_1, .int .i64 a0_2, .int .i64 a0_3, .int .i64 a0_4] 31 (0, 0)) (qK BK121.out) hg (Kd.R_ne HO155.out BK121.out (by decide))); have n1_ := Aside0.mk (Kd.R_after (ok := (fun k_ => some k_ ≠ (.slice Ao46 y144.length co46 : Value).ownBlock ∧ some k_ ≠ (.slice Ao49 t150.length co49 : Value).ownBlock)) (qR HO143.out) hg hat); have n2_ := Aside0.mk (Kd.R_after (ok := (fun k_ => some k_ ≠ (.slice Ao43 y141.length co43 : Value).ownBlock ∧ some k_ ≠ (.slice Ao49 t150.length co49 : Value).ownBlock)) (qR HO146.out) hg hat); have n3_ := Aside0.mk (Kd.R_after (ok := (fun k_ => some k_ ≠ (.slice Ao43 y141.length co43 : Value).ownBlock ∧ some k_ ≠ (.slice Ao46 y144.length co46 : Value).ownBlock)) (qR HO152.out) hg hat); have n4_ := Aside0.mk (hb); have n5_ := Aside0.mk (ho); clear BK121; clear HO143; clear HO146; clear HO152; clear HB; clear HO155; have BK121 := n0_; have HO143 := n1_; have HO146 := n2_; have HO152 := n3_; have HB := n4_; have HO158 := n5_; clear n0_ n1_ n2_ n3_ n4_ n5_; clear ho hb hg hat) | ((with_reducible refine gate_dst (N := 68) rfl ?_); refine Kd.R_lit (Kd.int .u8) _ 5 ?hg (N := 68) ?hd (xs := ([0, 9, 2] : List Int)) (inner := [.int .u8 0, .int .u8 9, .int .u8 2]) (ok := fun _ => True) (okp := fun _ => True) ?hr ?hp (fun _ hk => hk) trivial (Below.refl _ _) (Nat.le_refl _) (by simp) ?_; (case hd => rfl); (case hg => rfl); (case hr => first | (go_simp; done) | (go_simp; rfl)); (case hp => exact (Reps.one (show Kd.M (Kd.int .u8) _ _ _ 0 [.int .u8 0] from rfl) (Reps.one (show Kd.M (Kd.int .u8) _ _ _ 9 [.int .u8 9] from rfl) (Reps.one (show Kd.M (Kd.int .u8) _ _ _ 2 [.int .u8 2] from rfl) (Reps.none _ _))))); intro v160 w51 ho52 hb hg_ hnew_; clear hg_ hnew_; (first | rw [← Ny159.out] at ho52 | (simp only [Int.reduceToNat] at ho52; rw [← Ny159.out] at ho52)); have n0_ := Aside0.mk (Kd.R_elder' (qR HO143.out) (Kd.R_base ho52) hb); have n1_ := Aside0.mk (Kd.R_elder' (qR HO146.out) (Kd.R_base ho52) hb); have n2_ := Aside0.mk (Kd.R_elder' (qR HO152.out) (Kd.R_base ho52) hb); have n3_ := Aside0.mk (Kd.R_elder' (qR HO158.out) (Kd.R_base ho52) hb); have n4_ := Aside0.mk (Kd.R_lower (Kd.R_new' (Kd.R_new' (Kd.R_new' (Kd.R_new' ho52 (Kd.R_lt (qR HO143.out))) (Kd.R_lt (qR HO146.out))) (Kd.R_lt (qR HO152.out))) (Kd.R_lt (qR HO158.out))) (below_size (qG GE121.out))); have n5_ := Aside0.mk (blk_below (g := gb121) (o := .cells #[.int .i64 a0_0, .int .i64 a0_1, .int .i64 a0_2, .int .i64 a0_3, .int .i64 a0_4] 31 (0, 0)) (qK BK121.out) hb); have n6_ := Aside0.mk (below_step (qG GE121.out) hb); clear HO143; clear HO146; clear HO152; clear HO158; clear BK121; clear HB; have HO143 := n0_; have HO146 := n1_; have HO152 := n2_; have HO158 := n3_; have HO161 := n4_; have BK121 := n5_; have HB := n6_; clear n0_ n1_ n2_ n3_ n4_ n5_ n6_; clear hb ho52; obtain ⟨Ao54, co54, eo54⟩ := Kd.R_slice HO161.out; subst eo54) | ((with_reducible refine gate_builtin (b := .append) (xs := #[.tmp 67, .tmp 68]) rfl ?_); at_builtin; refine Kd.R_append_rows (Kd.int .u8) (w0 := w) w.heap.size rfl (.tmp 67) (.tmp 68) 23 5 (.int .u8 0) 1 rfl Tryd.underlying23 info5 rfl (by decide) (by omega) v157 y156 y159 _ _ _ (fun k_ => some k_ ≠ (.slice Ao43 y141.length co43 : Value).ownBlock ∧ some k_ ≠ (.slice Ao46 y144.length co46 : Value).ownBlock ∧ some k_ ≠ (.slice Ao49 t150.length co49 : Value).ownBlock ∧ some k_ ≠ (.slice Ao54 y159.length co54 : Value).ownBlock) (fun _ => False) rfl rfl ?aO ?aR (fun _ _ h => h) (fun _ h => h.elim) ?aF ?aB ?aS ?aL ?_; (case aR => exact qC (Kd.R_reads' HO161.out).2.2); (case aB => exact (qG GE121.out)); (case aF => exact (fun k_ hk => ⟨Kd.fresh' (Kd.R_lt (qR HO143.out)) k_ hk, Kd.fresh' (Kd.R_lt (qR HO146.out)) k_ hk, Kd.fresh' (Kd.R_lt (qR HO152.out)) k_ hk, Kd.fresh' (Kd.R_lt (qR HO161.out)) k_ hk⟩)); (case aO => exact (by (with_reducible repeat (first | apply Kd.R_alloc | apply Kd.R_drewN | apply Kd.R_drew)); exact Kd.R_mono HO158.out (fun _ hk => ⟨hk.1.1, ⟨hk.1.2.1, ⟨hk.1.2.2, hk.2⟩⟩⟩))); (case aS => exact (below_size (qG GE121.out))); (case aL => have := LMc29.out; omega); intro v163 w53 ho hb hg hat; rw [← Ny162.out] at ho; have n0_ := Aside0.mk (blk_grown (g := gb121) (o := .cells #[.int .i64 a0_0, .int .i64 a0_1, .int .i64 a0_2, .int .i64 a0_3, .int .i64 a0_4] 31 (0, 0)) (qK BK121.out) hg (Kd.R_ne HO158.out BK121.out (by decide))); have n1_ := Aside0.mk (Kd.R_after (ok := (fun k_ => some k_ ≠ (.slice Ao46 y144.length co46 : Value).ownBlock ∧ some k_ ≠ (.slice Ao49 t150.length co49 : Value).ownBlock ∧ some k_ ≠ (.slice Ao54 y159.length co54 : Value).ownBlock)) (by (with_reducible repeat (first | apply Kd.R_alloc | apply Kd.R_drewN | apply Kd.R_drew)); exact Kd.R_mono HO143.out (fun _ hk => ⟨⟨hk.1.1.1, ⟨hk.1.1.2, hk.2⟩⟩, hk.1.2⟩)) hg hat); have n2_ := Aside0.mk (Kd.R_after (ok := (fun k_ => some k_ ≠ (.slice Ao43 y141.length co43 : Value).ownBlock ∧ some k_ ≠ (.slice Ao49 t150.length co49 : Value).ownBlock ∧ some k_ ≠ (.slice Ao54 y159.length co54 : Value).ownBlock)) (by (with_reducible repeat (first | apply Kd.R_alloc | apply Kd.R_drewN | apply Kd.R_drew)); exact Kd.R_mono HO146.out (fun _ hk => ⟨⟨hk.1.1.1, ⟨hk.1.1.2, hk.2⟩⟩, hk.1.2⟩)) hg hat); have n3_ := Aside0.mk (Kd.R_after (ok := (fun k_ => some k_ ≠ (.slice Ao43 y141.length co43 : Value).ownBlock ∧ some k_ ≠ (.slice Ao46 y144.length co46 : Value).ownBlock ∧ some k_ ≠ (.slice Ao54 y159.length co54 : Value).ownBlock)) (by (with_reducible repeat (first | apply Kd.R_alloc | apply Kd.R_drewN | apply Kd.R_drew)); exact Kd.R_mono HO152.out (fun _ hk => ⟨⟨hk.1.1.1, ⟨hk.1.1.2, hk.2⟩⟩, hk.1.2⟩)) hg hat); have n4_ := Aside0.mk (Kd.R_after (ok := (fun k_ => some k_ ≠ (.slice Ao43 y141.length co43 : Value).ownBlock ∧ some k_ ≠ (.slice Ao46 y144.length co46 : Value).ownBlock ∧ some k_ ≠ (.slice Ao49 t150.length co49 : Value).ownBlock)) (by (with_reducible repeat (first | apply Kd.R_alloc | apply Kd.R_drewN | apply Kd.R_drew)); exact Kd.R_mono HO161.out (fun _ hk => ⟨⟨hk.1.1.1.2, ⟨hk.1.1.2, hk.1.2⟩⟩, hk.2⟩)) hg hat); have n5_ := Aside0.mk (hb); have n6_ := Aside0.mk (ho); clear BK121; clear HO143; clear HO146; clear HO152; clear HO161; clear HB; clear HO158; have BK121 := n0_; have HO143 := n1_; have HO146 := n2_; have HO152 := n3_; have HO161 := n4_; have HB := n5_; have HO164 := n6_; clear n0_ n1_ n2_ n3_ n4_ n5_ n6_; clear ho hb hg hat) | ((with_reducible refine gate_callee (f := 20) rfl ?_); refine goesL_ (some 71) rfl rfl Tryd.func20 (by kernel_rfl) rfl #[.int .u64 a1, .int .i64 8, .bool false] rfl qL ?_; (with_reducible refine (spec_Fixed.calls k1 a1 8 false t165 _ A30.out).mono ?_); rintro e w55 ⟨v166, rfl, ho0, hb⟩; refine ⟨_, rfl, ?_⟩; have n0_ := Aside0.mk (Kd.R_elder' (qR HO143.out) (Kd.R_base ho0) hb); have n1_ := Aside0.mk (Kd.R_elder' (qR HO146.out) (Kd.R_base ho0) hb); have n2_ := Aside0.mk (Kd.R_elder' (qR HO152.out) (Kd.R_base ho0) hb); have n3_ := Aside0.mk (Kd.R_elder' (qR HO161.out) (Kd.R_base ho0) hb); have n4_ := Aside0.mk (Kd.R_elder' (qR HO164.out) (Kd.R_base ho0) hb); have n5_ := Aside0.mk (Kd.R_lower (Kd.R_new' (Kd.R_new' (Kd.R_new' (Kd.R_new' (Kd.R_new' ho0 (Kd.R_lt (qR HO143.out))) (Kd.R_lt (qR HO146.out))) (Kd.R_lt (qR HO152.out))) (Kd.R_lt (qR HO161.out))) (Kd.R_lt (qR HO164.out))) (below_size (qG GE121.out))); have n6_ := Aside0.mk (blk_below (g := gb121) (o := .cells #[.int .i64 a0_0, .int .i64 a0_1, .int .i64 a0_2, .int .i64 a0_3, .int .i64 a0_4] 31 (0, 0)) (qK BK121.out) hb); have n7_ := Aside0.mk (below_step (qG GE121.out) hb); clear HO143; clear HO146; clear HO152; clear HO161; clear HO164; clear BK121; clear HB; have HO143 := n0_; have HO146 := n1_; have HO152 := n2_; have HO161 := n3_; have HO164 := n4_; have HO167 := n5_; have BK121 := n6_; have HB := n7_; clear n0_ n1_ n2_ n3_ n4_ n5_ n6_ n7_; (try clear hb); (try clear hb2); (try clear hk); (try clear hi); (try clear ho0); obtain ⟨Ao57, co57, eo57⟩ := Kd.R_slice HO167.out; subst eo57) | ((with_reducible refine gate_builtin (b := .append) (xs := #[.tmp 69, .tmp 71]) rfl ?_); at_builtin; refine Kd.R_append_rows (Kd.int .u8) (w0 := w) w.heap.size rfl (.tmp 69) (.tmp 71) 23 5 (.int .u8 0) 1 rfl Tryd.underlying23 info5 rfl (by decide) (by omega) v163 y162 t165 _ _ _ (fun k_ => some k_ ≠ (.slice Ao43 y141.length co43 : Value).ownBlock ∧ some k_ ≠ (.slice Ao46 y144.length co46 : Value).ownBlock ∧ some k_ ≠ (.slice Ao49 t150.length co49 : Value).ownBlock ∧ some k_ ≠ (.slice Ao54 y159.length co54 : Value).ownBlock ∧ some k_ ≠ (.slice Ao57 t165.length co57 : Value).ownBlock) (fun _ => False) rfl rfl ?aO ?aR (fun _ _ h => h) (fun _ h => h.elim) ?aF ?aB ?aS ?aL ?_; (case aR => exact qC (Kd.R_reads' HO167.out).2.2); (case aB => exact (qG GE121.out)); (case aF => exact (fun k_ hk => ⟨Kd.fresh' (Kd.R_lt (qR HO143.out)) k_ hk, Kd.fresh' (Kd.R_lt (qR HO146.out)) k_ hk, Kd.fresh' (Kd.R_lt (qR HO152.out)) k_ hk, Kd.fresh' (Kd.R_lt (qR HO161.out)) k_ hk, Kd.fresh' (Kd.R_lt (qR HO167.out)) k_ hk⟩)); (case aO => exact (by (with_reducible repeat (first | apply Kd.R_alloc | apply Kd.R_drewN | apply Kd.R_drew)); exact Kd.R_mono HO164.out (fun _ hk => ⟨hk.1.1, ⟨hk.1.2.1, ⟨hk.1.2.2.1, ⟨hk.1.2.2.2, hk.2⟩⟩⟩⟩))); (case aS => exact (below_size (qG GE121.out))); (case aL => have := LMc31.out; omega); intro v169 w56 ho hb hg hat; rw [← Ny168.out] at ho; have n0_ := Aside0.mk (blk_grown (g := gb121) (o := .cells #[.int .i64 a0_0, .int .i64 a0_1, .int .i64 a0_2, .int .i64 a0_3, .int .i64 a0_4] 31 (0, 0)) (qK BK121.out) hg (Kd.R_ne HO164.out BK121.out (by decide))); have n1_ := Aside0.mk (Kd.R_after (ok := (fun k_ => some k_ ≠ (.slice Ao46 y144.length co46 : Value).ownBlock ∧ some k_ ≠ (.slice Ao49 t150.length co49 : Value).ownBlock ∧ some k_ ≠ (.slice Ao54 y159.length co54 : Value).ownBlock ∧ some k_ ≠ (.slice Ao57 t165.length co57 : Value).ownBlock)) (by (with_reducible repeat (first | apply Kd.R_alloc | apply Kd.R_drewN | apply Kd.R_drew)); exact Kd.R_mono HO143.out (fun _ hk => ⟨⟨hk.1.1.1, ⟨hk.1.1.2.1, ⟨hk.1.1.2.2, hk.2⟩⟩⟩, hk.1.2⟩)) hg hat); have n2_ := Aside0.mk (Kd.R_after (ok := (fun k_ => some k_ ≠ (.slice Ao43 y141.length co43 : Value).ownBlock ∧ some k_ ≠ (.slice Ao49 t150.length co49 : Value).ownBlock ∧ some k_ ≠ (.slice Ao54 y159.length co54 : Value).ownBlock ∧ some k_ ≠ (.slice Ao57 t165.length co57 : Value).ownBlock)) (by (with_reducible repeat (first | apply Kd.R_alloc | apply Kd.R_drewN | apply Kd.R_drew)); exact Kd.R_mono HO146.out (fun _ hk => ⟨⟨hk.1.1.1, ⟨hk.1.1.2.1, ⟨hk.1.1.2.2, hk.2⟩⟩⟩, hk.1.2⟩)) hg hat); have n3_ := Aside0.mk (Kd.R_after (ok := (fun k_ => some k_ ≠ (.slice Ao43 y141.length co43 : Value).ownBlock ∧ some k_ ≠ (.slice Ao46 y144.length co46 : Value).ownBlock ∧ some k_ ≠ (.slice Ao54 y159.length co54 : Value).ownBlock ∧ some k_ ≠ (.slice Ao57 t165.length co57 : Value).ownBlock)) (by (with_reducible repeat (first | apply Kd.R_alloc | apply Kd.R_drewN | apply Kd.R_drew)); exact Kd.R_mono HO152.out (fun _ hk => ⟨⟨hk.1.1.1, ⟨hk.1.1.2.1, ⟨hk.1.1.2.2, hk.2⟩⟩⟩, hk.1.2⟩)) hg hat); have n4_ := Aside0.mk (Kd.R_after (ok := (fun k_ => some k_ ≠ (.slice Ao43 y141.length co43 : Value).ownBlock ∧ some k_ ≠ (.slice Ao46 y144.length co46 : Value).ownBlock ∧ some k_ ≠ (.slice Ao49 t150.length co49 : Value).ownBlock ∧ some k_ ≠ (.slice Ao57 t165.length co57 : Value).ownBlock)) (by (with_reducible repeat (first | apply Kd.R_alloc | apply Kd.R_drewN | apply Kd.R_drew)); exact Kd.R_mono HO161.out (fun _ hk => ⟨⟨hk.1.1.1, ⟨hk.1.1.2.1, ⟨hk.1.1.2.2, hk.2⟩⟩⟩, hk.1.2⟩)) hg hat); have n5_ := Aside0.mk (Kd.R_after (ok := (fun k_ => some k_ ≠ (.slice Ao43 y141.length co43 : Value).ownBlock ∧ some k_ ≠ (.slice Ao46 y144.length co46 : Value).ownBlock ∧ some k_ ≠ (.slice Ao49 t150.length co49 : Value).ownBlock ∧ some k_ ≠ (.slice Ao54 y159.length co54 : Value).ownBlock)) (by (with_reducible repeat (first | apply Kd.R_alloc | apply Kd.R_drewN | apply Kd.R_drew)); exact Kd.R_mono HO167.out (fun _ hk => ⟨⟨hk.1.1.1.1.2, ⟨hk.1.1.1.2, ⟨hk.1.1.2, hk.1.2⟩⟩⟩, hk.2⟩)) hg hat); have n6_ := Aside0.mk (hb); have n7_ := Aside0.mk (ho); clear BK121; clear HO143; clear HO146; clear HO152; clear HO161; clear HO167; clear HB; clear HO164; have BK121 := n0_; have HO143 := n1_; have HO146 := n2_; have HO152 := n3_; have HO161 := n4_; have HO167 := n5_; have HB := n6_; have HO170 := n7_; clear n0_ n1_ n2_ n3_ n4_ n5_ n6_ n7_; clear ho hb hg hat) | ((with_reducible refine gate_builtin (b := .append) (xs := #[.tmp 73, .tmp 74]) rfl ?_); at_builtin; refine Kd.R_append_rows (Kd.int .u8) (w0 := w) w.heap.size rfl (.tmp 73) (.tmp 74) 23 5 (.int .u8 0) 1 rfl Tryd.underlying23 info5 rfl (by decide) (by omega) v169 y168 l2 _ _ _ (fun k_ => some k_ ≠ (.slice Ao43 y141.length co43 : Value).ownBlock ∧ some k_ ≠ (.slice Ao46 y144.length co46 : Value).ownBlock ∧ some k_ ≠ (.slice Ao49 t150.length co49 : Value).ownBlock ∧ some k_ ≠ (.slice Ao54 y159.length co54 : Value).ownBlock ∧ some k_ ≠ (.slice Ao57 t165.length co57 : Value).ownBlock) (fun _ => False) rfl rfl ?aO ?aR (fun _ _ h => h) (fun _ h => h.elim) ?aF ?aB ?aS ?aL ?_; (case aR => exact qC (Kd.C_below HR2.out HB.out)); (case aB => exact (qG GE121.out)); (case aF => exact (fun k_ hk => ⟨Kd.fresh' (Kd.R_lt (qR HO143.out)) k_ hk, Kd.fresh' (Kd.R_lt (qR HO146.out)) k_ hk, Kd.fresh' (Kd.R_lt (qR HO152.out)) k_ hk, Kd.fresh' (Kd.R_lt (qR HO161.out)) k_ hk, Kd.fresh' (Kd.R_lt (qR HO167.out)) k_ hk⟩)); (case aO => exact (qR HO170.out)); (case aS => exact (below_size (qG GE121.out))); (case aL => have := LMc32.out; omega); intro v172 w58 ho hb hg hat; rw [← Ny171.out] at ho; have n0_ := Aside0.mk (blk_grown (g := gb121) (o := .cells #[.int .i64 a0_0, .int .i64 a0_1, .int .i64 a0_2, .int .i64 a0_3, .int .i64 a0_4] 31 (0, 0)) (qK BK121.out) hg (Kd.R_ne HO170.out BK121.out (by decide))); have n1_ := Aside0.mk (Kd.R_after (ok := (fun k_ => some k_ ≠ (.slice Ao46 y144.length co46 : Value).ownBlock ∧ some k_ ≠ (.slice Ao49 t150.length co49 : Value).ownBlock ∧ some k_ ≠ (.slice Ao54 y159.length co54 : Value).ownBlock ∧ some k_ ≠ (.slice Ao57 t165.length co57 : Value).ownBlock)) (qR HO143.out) hg hat); have n2_ := Aside0.mk (Kd.R_after (ok := (fun k_ => some k_ ≠ (.slice Ao43 y141.length co43 : Value).ownBlock ∧ some k_ ≠ (.slice Ao49 t150.length co49 : Value).ownBlock ∧ some k_ ≠ (.slice Ao54 y159.length co54 : Value).ownBlock ∧ some k_ ≠ (.slice Ao57 t165.length co57 : Value).ownBlock)) (qR HO146.out) hg hat); have n3_ := Aside0.mk (Kd.R_after (ok := (fun k_ => some k_ ≠ (.slice Ao43 y141.length co43 : Value).ownBlock ∧ some k_ ≠ (.slice Ao46 y144.length co46 : Value).ownBlock ∧ some k_ ≠ (.slice Ao54 y159.length co54 : Value).ownBlock ∧ some k_ ≠ (.slice Ao57 t165.length co57 : Value).ownBlock)) (qR HO152.out) hg hat); have n4_ := Aside0.mk (Kd.R_after (ok := (fun k_ => some k_ ≠ (.slice Ao43 y141.length co43 : Value).ownBlock ∧ some k_ ≠ (.slice Ao46 y144.length co46 : Value).ownBlock ∧ some k_ ≠ (.slice Ao49 t150.length co49 : Value).ownBlock ∧ some k_ ≠ (.slice Ao57 t165.length co57 : Value).ownBlock)) (qR HO161.out) hg hat); have n5_ := Aside0.mk (Kd.R_after (ok := (fun k_ => some k_ ≠ (.slice Ao43 y141.length co43 : Value).ownBlock ∧ some k_ ≠ (.slice Ao46 y144.length co46 : Value).ownBlock ∧ some k_ ≠ (.slice Ao49 t150.length co49 : Value).ownBlock ∧ some k_ ≠ (.slice Ao54 y159.length co54 : Value).ownBlock)) (qR HO167.out) hg hat); have n6_ := Aside0.mk (hb); have n7_ := Aside0.mk (ho); clear BK121; clear HO143; clear HO146; clear HO152; clear HO161; clear HO167; clear HB; clear HO170; have BK121 := n0_; have HO143 := n1_; have HO146 := n2_; have HO152 := n3_; have HO161 := n4_; have HO167 := n5_; have HB := n6_; have HO173 := n7_; clear n0_ n1_ n2_ n3_ n4_ n5_ n6_ n7_; clear ho hb hg hat) | ((with_reducible refine gate_dst (N := 76) rfl ?_); refine Kd.R_lit (Kd.int .u8) _ 5 ?hg (N := 76) ?hd (xs := ([0, 1, 1] : List Int)) (inner := [.int .u8 0, .int .u8 1, .int .u8 1]) (ok := fun _ => True) (okp := fun _ => True) ?hr ?hp (fun _ hk => hk) trivial (Below.refl _ _) (Nat.le_refl _) (by simp) ?_; (case hd => rfl); (case hg => rfl); (case hr => first | (go_simp; done) | (go_simp; rfl)); (case hp => exact (Reps.one (show Kd.M (Kd.int .u8) _ _ _ 0 [.int .u8 0] from rfl) (Reps.one (show Kd.M (Kd.int .u8) _ _ _ 1 [.int .u8 1] from rfl) (Reps.one (show Kd.M (Kd.int .u8) _ _ _ 1 [.int .u8 1] from rfl) (Reps.none _ _))))); intro v175 w59 ho60 hb hg_ hnew_; clear hg_ hnew_; (first | rw [← Ny174.out] at ho60 | (simp only [Int.reduceToNat] at ho60; rw [← Ny174.out] at ho60)); have n0_ := Aside0.mk (Kd.R_elder' (qR HO143.out) (Kd.R_base ho60) hb); have n1_ := Aside0.mk (Kd.R_elder' (qR HO146.out) (Kd.R_base ho60) hb); have n2_ := Aside0.mk (Kd.R_elder' (qR HO152.out) (Kd.R_base ho60) hb); have n3_ := Aside0.mk (Kd.R_elder' (qR HO161.out) (Kd.R_base ho60) hb); have n4_ := Aside0.mk (Kd.R_elder' (qR HO167.out) (Kd.R_base ho60) hb); have n5_ := Aside0.mk (Kd.R_elder' (qR HO173.out) (Kd.R_base ho60) hb); have n6_ := Aside0.mk (Kd.R_lower (Kd.R_new' (Kd.R_new' (Kd.R_new' (Kd.R_new' (Kd.R_new' (Kd.R_new' ho60 (Kd.R_lt (qR HO143.out))) (Kd.R_lt (qR HO146.out))) (Kd.R_lt (qR HO152.out))) (Kd.R_lt (qR HO161.out))) (Kd.R_lt (qR HO167.out))) (Kd.R_lt (qR HO173.out))) (below_size (qG GE121.out))); have n7_ := Aside0.mk (blk_below (g := gb121) (o := .cells #[.int .i64 a0_0, .int .i64 a0_1, .int .i64 a0_2, .int .i64 a0_3, .int .i64 a0_4] 31 (0, 0)) (qK BK121.out) hb); have n8_ := Aside0.mk (below_step (qG GE121.out) hb); clear HO143; clear HO146; clear HO152; clear HO161; clear HO167; clear HO173; clear BK121; clear HB; have HO143 := n0_; have HO146 := n1_; have HO152 := n2_; have HO161 := n3_; have HO167 := n4_; have HO173 := n5_; have HO176 := n6_; have BK121 := n7_; have HB := n8_; clear n0_ n1_ n2_ n3_ n4_ n5_ n6_ n7_ n8_; clear hb ho60; obtain ⟨Ao62, co62, eo62⟩ := Kd.R_slice HO176.out; subst eo62) | ((with_reducible refine gate_builtin (b := .append) (xs := #[.tmp 75, .tmp 76]) rfl ?_); at_builtin; refine Kd.R_append_rows (Kd.int .u8) (w0 := w) w.heap.size rfl (.tmp 75) (.tmp 76) 23 5 (.int .u8 0) 1 rfl Tryd.underlying23 info5 rfl (by decide) (by omega) v172 y171 y174 _ _ _ (fun k_ => some k_ ≠ (.slice Ao43 y141.length co43 : Value).ownBlock ∧ some k_ ≠ (.slice Ao46 y144.length co46 : Value).ownBlock ∧ some k_ ≠ (.slice Ao49 t150.length co49 : Value).ownBlock ∧ some k_ ≠ (.slice Ao54 y159.length co54 : Value).ownBlock ∧ some k_ ≠ (.slice Ao57 t165.length co57 : Value).ownBlock ∧ some k_ ≠ (.slice Ao62 y174.length co62 : Value).ownBlock) (fun _ => False) rfl rfl ?aO ?aR (fun _ _ h => h) (fun _ h => h.elim) ?aF ?aB ?aS ?aL ?_; (case aR => exact qC (Kd.R_reads' HO176.out).2.2); (case aB => exact (qG GE121.out)); (case aF => exact (fun k_ hk => ⟨Kd.fresh' (Kd.R_lt (qR HO143.out)) k_ hk, Kd.fresh' (Kd.R_lt (qR HO146.out)) k_ hk, Kd.fresh' (Kd.R_lt (qR HO152.out)) k_ hk, Kd.fresh' (Kd.R_lt (qR HO161.out)) k_ hk, Kd.fresh' (Kd.R_lt (qR HO167.out)) k_ hk, Kd.fresh' (Kd.R_lt (qR HO176.out)) k_ hk⟩)); (case aO => exact (by (with_reducible repeat (first | apply Kd.R_alloc | apply Kd.R_drewN | apply Kd.R_drew)); exact Kd.R_mono HO173.out (fun _ hk => ⟨hk.1.1, ⟨hk.1.2.1, ⟨hk.1.2.2.1, ⟨hk.1.2.2.2.1, ⟨hk.1.2.2.2.2, hk.2⟩⟩⟩⟩⟩))); (case aS => exact (below_size (qG GE121.out))); (case aL => have := LMc33.out; omega); intro v178 w61 ho hb hg hat; rw [← Ny177.out] at ho; have n0_ := Aside0.mk (blk_grown (g := gb121) (o := .cells #[.int .i64 a0_0, .int .i64 a0_1, .int .i64 a0_2, .int .i64 a0_3, .int .i64 a0_4] 31 (0, 0)) (qK BK121.out) hg (Kd.R_ne HO173.out BK121.out (by decide))); have n1_ := Aside0.mk (Kd.R_after (ok := (fun k_ => some k_ ≠ (.slice Ao46 y144.length co46 : Value).ownBlock ∧ some k_ ≠ (.slice Ao49 t150.length co49 : Value).ownBlock ∧ some k_ ≠ (.slice Ao54 y159.length co54 : Value).ownBlock ∧ some k_ ≠ (.slice Ao57 t165.length co57 : Value).ownBlock ∧ some k_ ≠ (.slice Ao62 y174.length co62 : Value).ownBlock)) (by (with_reducible repeat (first | apply Kd.R_alloc | apply Kd.R_drewN | apply Kd.R_drew)); exact Kd.R_mono HO143.out (fun _ hk => ⟨⟨hk.1.1.1, ⟨hk.1.1.2.1, ⟨hk.1.1.2.2.1, ⟨hk.1.1.2.2.2, hk.2⟩⟩⟩⟩, hk.1.2⟩)) hg hat); have n2_ := Aside0.mk (Kd.R_after (ok := (fun k_ => some k_ ≠ (.slice Ao43 y141.length co43 : Value).ownBlock ∧ some k_ ≠ (.slice Ao49 t150.length co49 : Value).ownBlock ∧ some k_ ≠ (.slice Ao54 y159.length co54 : Value).ownBlock ∧ some k_ ≠ (.slice Ao57 t165.length co57 : Value).ownBlock ∧ some k_ ≠ (.slice Ao62 y174.length co62 : Value).ownBlock)) (by (with_reducible repeat (first | apply Kd.R_alloc | apply Kd.R_drewN | apply Kd.R_drew)); exact Kd.R_mono HO146.out (fun _ hk => ⟨⟨hk.1.1.1, ⟨hk.1.1.2.1, ⟨hk.1.1.2.2.1, ⟨hk.1.1.2.2.2, hk.2⟩⟩⟩⟩, hk.1.2⟩)) hg hat); have n3_ := Aside0.mk (Kd.R_after (ok := (fun k_ => some k_ ≠ (.slice Ao43 y141.length co43 : Value).ownBlock ∧ some k_ ≠ (.slice Ao46 y144.length co46 : Value).ownBlock ∧ some k_ ≠ (.slice Ao54 y159.length co54 : Value).ownBlock ∧ some k_ ≠ (.slice Ao57 t165.length co57 : Value).ownBlock ∧ some k_ ≠ (.slice Ao62 y174.length co62 : Value).ownBlock)) (by (with_reducible repeat (first | apply Kd.R_alloc | apply Kd.R_drewN | apply Kd.R_drew)); exact Kd.R_mono HO152.out (fun _ hk => ⟨⟨hk.1.1.1, ⟨hk.1.1.2.1, ⟨hk.1.1.2.2.1, ⟨hk.1.1.2.2.2, hk.2⟩⟩⟩⟩, hk.1.2⟩)) hg hat); have n4_ := Aside0.mk (Kd.R_after (ok := (fun k_ => some k_ ≠ (.slice Ao43 y141.length co43 : Value).ownBlock ∧ some k_ ≠ (.slice Ao46 y144.length co46 : Value).ownBlock ∧ some k_ ≠ (.slice Ao49 t150.length co49 : Value).ownBlock ∧ some k_ ≠ (.slice Ao57 t165.length co57 : Value).ownBlock ∧ some k_ ≠ (.slice Ao62 y174.length co62 : Value).ownBlock)) (by (with_reducible repeat (first | apply Kd.R_alloc | apply Kd.R_drewN | apply Kd.R_drew)); exact Kd.R_mono HO161.out (fun _ hk => ⟨⟨hk.1.1.1, ⟨hk.1.1.2.1, ⟨hk.1.1.2.2.1, ⟨hk.1.1.2.2.2, hk.2⟩⟩⟩⟩, hk.1.2⟩)) hg hat); have n5_ := Aside0.mk (Kd.R_after (ok := (fun k_ => some k_ ≠ (.slice Ao43 y141.length co43 : Value).ownBlock ∧ some k_ ≠ (.slice Ao46 y144.length co46 : Value).ownBlock ∧ some k_ ≠ (.slice Ao49 t150.length co49 : Value).ownBlock ∧ some k_ ≠ (.slice Ao54 y159.length co54 : Value).ownBlock ∧ some k_ ≠ (.slice Ao62 y174.length co62 : Value).ownBlock)) (by (with_reducible repeat (first | apply Kd.R_alloc | apply Kd.R_drewN | apply Kd.R_drew)); exact Kd.R_mono HO167.out (fun _ hk => ⟨⟨hk.1.1.1, ⟨hk.1.1.2.1, ⟨hk.1.1.2.2.1, ⟨hk.1.1.2.2.2, hk.2⟩⟩⟩⟩, hk.1.2⟩)) hg hat); have n6_ := Aside0.mk (Kd.R_after (ok := (fun k_ => some k_ ≠ (.slice Ao43 y141.length co43 : Value).ownBlock ∧ some k_ ≠ (.slice Ao46 y144.length co46 : Value).ownBlock ∧ some k_ ≠ (.slice Ao49 t150.length co49 : Value).ownBlock ∧ some k_ ≠ (.slice Ao54 y159.length co54 : Value).ownBlock ∧ some k_ ≠ (.slice Ao57 t165.length co57 : Value).ownBlock)) (by (with_reducible repeat (first | apply Kd.R_alloc | apply Kd.R_drewN | apply Kd.R_drew)); exact Kd.R_mono HO176.out (fun _ hk => ⟨⟨hk.1.1.1.1.1.2, ⟨hk.1.1.1.1.2, ⟨hk.1.1.1.2, ⟨hk.1.1.2, hk.1.2⟩⟩⟩⟩, hk.2⟩)) hg hat); have n7_ := Aside0.mk (hb); have n8_ := Aside0.mk (ho); clear BK121; clear HO143; clear HO146; clear HO152; clear HO161; clear HO167; clear HO176; clear HB; clear HO173; have BK121 := n0_; have HO143 := n1_; have HO146 := n2_; have HO152 := n3_; have HO161 := n4_; have HO167 := n5_; have HO176 := n6_; have HB := n7_; have HO179 := n8_; clear n0_ n1_ n2_ n3_ n4_ n5_ n6_ n7_ n8_; clear ho hb hg hat; obtain ⟨Ao63, co63, eo63⟩ := Kd.R_slice HO179.out; subst eo63) | ((with_reducible refine gate_callee (f := 20) rfl ?_); refine goesL_ (some 81) rfl rfl Tryd.func20 (by kernel_rfl) rfl #[.int .u64 (IntKind.u64.wrap ((y177.length : Int))), .int .i64 4, .bool false] rfl qL ?_; (with_reducible refine (spec_Fixed.calls k1 (IntKind.u64.wrap ((y177.length : Int))) 4 false t180 _ A34.out).mono ?_); rintro e w64 ⟨v181, rfl, ho0, hb⟩; refine ⟨_, rfl, ?_⟩; have n0_ := Aside0.mk (Kd.R_elder' (qR HO143.out) (Kd.R_base ho0) hb); have n1_ := Aside0.mk (Kd.R_elder' (qR HO146.out) (Kd.R_base ho0) hb); have n2_ := Aside0.mk (Kd.R_elder' (qR HO152.out) (Kd.R_base ho0) hb); have n3_ := Aside0.mk (Kd.R_elder' (qR HO161.out) (Kd.R_base ho0) hb); have n4_ := Aside0.mk (Kd.R_elder' (qR HO167.out) (Kd.R_base ho0) hb); have n5_ := Aside0.mk (Kd.R_elder' (qR HO176.out) (Kd.R_base ho0) hb); have n6_ := Aside0.mk (Kd.R_elder' (qR HO179.out) (Kd.R_base ho0) hb); have n7_ := Aside0.mk (Kd.R_lower (Kd.R_new' (Kd.R_new' (Kd.R_new' (Kd.R_new' (Kd.R_new' (Kd.R_new' (Kd.R_new' ho0 (Kd.R_lt (qR HO143.out))) (Kd.R_lt (qR HO146.out))) (Kd.R_lt (qR HO152.out))) (Kd.R_lt (qR HO161.out))) (Kd.R_lt (qR HO167.out))) (Kd.R_lt (qR HO176.out))) (Kd.R_lt (qR HO179.out))) (below_size (qG GE121.out))); have n8_ := Aside0.mk (blk_below (g := gb121) (o := .cells #[.int .i64 a0_0, .int .i64 a0_1, .int .i64 a0_2, .int .i64 a0_3, .int .i64 a0_4] 31 (0, 0)) (qK BK121.out) hb); have n9_ := Aside0.mk (below_step (qG GE121.out) hb); clear HO143; clear HO146; clear HO152; clear HO161; clear HO167; clear HO176; clear HO179; clear BK121; clear HB; have HO143 := n0_; have HO146 := n1_; have HO152 := n2_; have HO161 := n3_; have HO167 := n4_; have HO176 := n5_; have HO179 := n6_; have HO182 := n7_; have BK121 := n8_; have HB := n9_; clear n0_ n1_ n2_ n3_ n4_ n5_ n6_ n7_ n8_ n9_; (try clear hb); (try clear hb2); (try clear hk); (try clear hi); (try clear ho0)) | ((with_reducible refine gate_builtin (b := .append) (xs := #[.tmp 81, .tmp 82]) rfl ?_); at_builtin; refine Kd.R_append_rows (Kd.int .u8) (w0 := w) w.heap.size rfl (.tmp 81) (.tmp 82) 23 5 (.int .u8 0) 1 rfl Tryd.underlying23 info5 rfl (by decide) (by omega) v181 t180 y177 _ _ _ (fun k_ => some k_ ≠ (.slice Ao43 y141.length co43 : Value).ownBlock ∧ some k_ ≠ (.slice Ao46 y144.length co46 : Value).ownBlock ∧ some k_ ≠ (.slice Ao49 t150.length co49 : Value).ownBlock ∧ some k_ ≠ (.slice Ao54 y159.length co54 : Value).ownBlock ∧ some k_ ≠ (.slice Ao57 t165.length co57 : Value).ownBlock ∧ some k_ ≠ (.slice Ao62 y174.length co62 : Value).ownBlock ∧ some k_ ≠ (.slice Ao63 y177.length co63 : Value).ownBlock) (fun _ => False) rfl rfl ?aO ?aR (fun _ _ h => h) (fun _ h => h.elim) ?aF ?aB ?aS ?aL ?_; (case aR => exact qC (Kd.R_reads' HO179.out).2.2); (case aB => exact (qG GE121.out)); (case aF => exact (fun k_ hk => ⟨Kd.fresh' (Kd.R_lt (qR HO143.out)) k_ hk, Kd.fresh' (Kd.R_lt (qR HO146.out)) k_ hk, Kd.fresh' (Kd.R_lt (qR HO152.out)) k_ hk, Kd.fresh' (Kd.R_lt (qR HO161.out)) k_ hk, Kd.fresh' (Kd.R_lt (qR HO167.out)) k_ hk, Kd.fresh' (Kd.R_lt (qR HO176.out)) k_ hk, Kd.fresh' (Kd.R_lt (qR HO179.out)) k_ hk⟩)); (case aO => exact (by (with_reducible repeat (first | apply Kd.R_alloc | apply Kd.R_drewN | apply Kd.R_drew)); exact Kd.R_mono HO182.out (fun _ hk => ⟨hk.1.1.1.1.1.1.2, ⟨hk.1.1.1.1.1.2, ⟨hk.1.1.1.1.2, ⟨hk.1.1.1.2, ⟨hk.1.1.2, ⟨hk.1.2, hk.2⟩⟩⟩⟩⟩⟩))); (case aS => exact (below_size (qG GE121.out))); (case aL => have := LMc35.out; omega); intro v184 w65 ho hb hg hat; rw [← Ny183.out] at ho; have n0_ := Aside0.mk (blk_grown (g := gb121) (o := .cells #[.int .i64 a0_0, .int .i64 a0_1, .int .i64 a0_2, .int .i64 a0_3, .int .i64 a0_4] 31 (0, 0)) (qK BK121.out) hg (Kd.R_ne HO182.out BK121.out (by decide))); have n1_ := Aside0.mk (Kd.R_after (ok := (fun k_ => some k_ ≠ (.slice Ao46 y144.length co46 : Value).ownBlock ∧ some k_ ≠ (.slice Ao49 t150.length co49 : Value).ownBlock ∧ some k_ ≠ (.slice Ao54 y159.length co54 : Value).ownBlock ∧ some k_ ≠ (.slice Ao57 t165.length co57 : Value).ownBlock ∧ some k_ ≠ (.slice Ao62 y174.length co62 : Value).ownBlock ∧ some k_ ≠ (.slice Ao63 y177.length co63 : Value).ownBlock)) (by (with_reducible repeat (first | apply Kd.R_alloc | apply Kd.R_drewN | apply Kd.R_drew)); exact Kd.R_mono HO143.out (fun _ hk => ⟨⟨hk.1.1.1, ⟨hk.1.1.2.1, ⟨hk.1.1.2.2.1, ⟨hk.1.1.2.2.2.1, ⟨hk.1.1.2.2.2.2, hk.1.2⟩⟩⟩⟩⟩, hk.2⟩)) hg hat); have n2_ := Aside0.mk (Kd.R_after (ok := (fun k_ => some k_ ≠ (.slice Ao43 y141.length co43 : Value).ownBlock ∧ some k_ ≠ (.slice Ao49 t150.length co49 : Value).ownBlock ∧ some k_ ≠ (.slice Ao54 y159.length co54 : Value).ownBlock ∧ some k_ ≠ (.slice Ao57 t165.length co57 : Value).ownBlock ∧ some k_ ≠ (.slice Ao62 y174.length co62 : Value).ownBlock ∧ some k_ ≠ (.slice Ao63 y177.length co63 : Value).ownBlock)) (by (with_reducible repeat (first | apply Kd.R_alloc | apply Kd.R_drewN | apply Kd.R_drew)); exact Kd.R_mono HO146.out (fun _ hk => ⟨⟨hk.1.1.1, ⟨hk.1.1.2.1, ⟨hk.1.1.2.2.1, ⟨hk.1.1.2.2.2.1, ⟨hk.1.1.2.2.2.2, hk.1.2⟩⟩⟩⟩⟩, hk.2⟩)) hg hat); have n3_ := Aside0.mk (Kd.R_after (ok := (fun k_ => some k_ ≠ (.slice Ao43 y141.length co43 : Value).ownBlock ∧ some k_ ≠ (.slice Ao46 y144.length co46 : Value).ownBlock ∧ some k_ ≠ (.slice Ao54 y159.length co54 : Value).ownBlock ∧ some k_ ≠ (.slice Ao57 t165.length co57 : Value).ownBlock ∧ some k_ ≠ (.slice Ao62 y174.length co62 : Value).ownBlock ∧ some k_ ≠ (.slice Ao63 y177.length co63 : Value).ownBlock)) (by (with_reducible repeat (first | apply Kd.R_alloc | apply Kd.R_drewN | apply Kd.R_drew)); exact Kd.R_mono HO152.out (fun _ hk => ⟨⟨hk.1.1.1, ⟨hk.1.1.2.1, ⟨hk.1.1.2.2.1, ⟨hk.1.1.2.2.2.1, ⟨hk.1.1.2.2.2.2, hk.1.2⟩⟩⟩⟩⟩, hk.2⟩)) hg hat); have n4_ := Aside0.mk (Kd.R_after (ok := (fun k_ => some k_ ≠ (.slice Ao43 y141.length co43 : Value).ownBlock ∧ some k_ ≠ (.slice Ao46 y144.length co46 : Value).ownBlock ∧ some k_ ≠ (.slice Ao49 t150.length co49 : Value).ownBlock ∧ some k_ ≠ (.slice Ao57 t165.length co57 : Value).ownBlock ∧ some k_ ≠ (.slice Ao62 y174.length co62 : Value).ownBlock ∧ some k_ ≠ (.slice Ao63 y177.length co63 : Value).ownBlock)) (by (with_reducible repeat (first | apply Kd.R_alloc | apply Kd.R_drewN | apply Kd.R_drew)); exact Kd.R_mono HO161.out (fun _ hk => ⟨⟨hk.1.1.1, ⟨hk.1.1.2.1, ⟨hk.1.1.2.2.1, ⟨hk.1.1.2.2.2.1, ⟨hk.1.1.2.2.2.2, hk.1.2⟩⟩⟩⟩⟩, hk.2⟩)) hg hat); have n5_ := Aside0.mk (Kd.R_after (ok := (fun k_ => some k_ ≠ (.slice Ao43 y141.length co43 : Value).ownBlock ∧ some k_ ≠ (.slice Ao46 y144.length co46 : Value).ownBlock ∧ some k_ ≠ (.slice Ao49 t150.length co49 : Value).ownBlock ∧ some k_ ≠ (.slice Ao54 y159.length co54 : Value).ownBlock ∧ some k_ ≠ (.slice Ao62 y174.length co62 : Value).ownBlock ∧ some k_ ≠ (.slice Ao63 y177.length co63 : Value).ownBlock)) (by (with_reducible repeat (first | apply Kd.R_alloc | apply Kd.R_drewN | apply Kd.R_drew)); exact Kd.R_mono HO167.out (fun _ hk => ⟨⟨hk.1.1.1, ⟨hk.1.1.2.1, ⟨hk.1.1.2.2.1, ⟨hk.1.1.2.2.2.1, ⟨hk.1.1.2.2.2.2, hk.1.2⟩⟩⟩⟩⟩, hk.2⟩)) hg hat); have n6_ := Aside0.mk (Kd.R_after (ok := (fun k_ => some k_ ≠ (.slice Ao43 y141.length co43 : Value).ownBlock ∧ some k_ ≠ (.slice Ao46 y144.length co46 : Value).ownBlock ∧ some k_ ≠ (.slice Ao49 t150.length co49 : Value).ownBlock ∧ some k_ ≠ (.slice Ao54 y159.length co54 : Value).ownBlock ∧ some k_ ≠ (.slice Ao57 t165.length co57 : Value).ownBlock ∧ some k_ ≠ (.slice Ao63 y177.length co63 : Value).ownBlock)) (by (with_reducible repeat (first | apply Kd.R_alloc | apply Kd.R_drewN | apply Kd.R_drew)); exact Kd.R_mono HO176.out (fun _ hk => ⟨⟨hk.1.1.1, ⟨hk.1.1.2.1, ⟨hk.1.1.2.2.1, ⟨hk.1.1.2.2.2.1, ⟨hk.1.1.2.2.2.2, hk.1.2⟩⟩⟩⟩⟩, hk.2⟩)) hg hat); have n7_ := Aside0.mk (Kd.R_after (ok := (fun k_ => some k_ ≠ (.slice Ao43 y141.length co43 : Value).ownBlock ∧ some k_ ≠ (.slice Ao46 y144.length co46 : Value).ownBlock ∧ some k_ ≠ (.slice Ao49 t150.length co49 : Value).ownBlock ∧ some k_ ≠ (.slice Ao54 y159.length co54 : Value).ownBlock ∧ some k_ ≠ (.slice Ao57 t165.length co57 : Value).ownBlock ∧ some k_ ≠ (.slice Ao62 y174.length co62 : Value).ownBlock)) (qR HO179.out) hg hat); have n8_ := Aside0.mk (hb); have n9_ := Aside0.mk (ho); clear BK121; clear HO143; clear HO146; clear HO152; clear HO161; clear HO167; clear HO176; clear HO179; clear HB; clear HO182; have BK121 := n0_; have HO143 := n1_; have HO146 := n2_; have HO152 := n3_; have HO161 := n4_; have HO167 := n5_; have HO176 := n6_; have HO179 := n7_; have HB := n8_; have HO185 := n9_; clear n0_ n1_ n2_ n3_ n4_ n5_ n6_ n7_ n8_ n9_; clear ho hb hg hat))
                                go_ret
                                exact ⟨_, by first | rfl | (simp [errW_none, errW_some] <;> rfl) | (simp only [← hji20]; first | rfl | (simp [errW_none, errW_some] <;> rfl)) | (simp [*, errW_none, errW_some] <;> rfl), by (with_reducible repeat (first | apply Kd.R_alloc | apply Kd.R_drewN | apply Kd.R_drew)); exact Kd.R_mono HO185.out (fun _ hk => trivial), by repeat (first | (with_reducible first | exact HB.out | apply below_alloc | apply pw_below_drewN | apply below_drew1 | refine below_set ?_ GE121.out) | exact HB.out)⟩
                              · rw [if_neg c35] at H
                                exact absurd H (by simp)
                            · rw [if_neg c33] at H
                              exact absurd H (by simp)
                          · rw [if_neg c32] at H
                            exact absurd H (by simp)
                        · rw [if_neg c31] at H
                          exact absurd H (by simp)
                      · rw [if_neg c29] at H
                        exact absurd H (by simp)
                    · rw [if_neg c28] at H
                      exact absurd H (by simp)
                  · rw [if_neg c27] at H
                    exact absurd H (by simp)
                · rw [if_neg c25] at H
                  exact absurd H (by simp)
              · rw [if_neg c24] at H
                exact absurd H (by simp)
            · rw [if_neg c23] at H
              exact absurd H (by simp)
          · rw [if_neg c22] at H
            exact absurd H (by simp)
        · rw [if_neg c21] at H
          exact absurd H (by simp)

/-! ### laws_plain: function 15 -/
def laws_plain.f (k : Nat) (a0_0 : Int) (a0_1 : Int) (a0_2 : Int) (a0_3 : Int) (a0_4 : Int) (a1 : Int) (l2 : List Int) : Option (List Int) := (laws_named.f k a0_0 a0_1 a0_2 a0_3 a0_4 a1 l2 (⟨#[47, 97]⟩ : ByteArray)).bind fun t187 => (some t187)
theorem laws_plain.mono : ∀ a0 a1 a2 a3 a4 a5 a6 k, LeO (laws_plain.f k a0 a1 a2 a3 a4 a5 a6) (laws_plain.f (k + 1) a0 a1 a2 a3 a4 a5 a6) := by
  intro a0 a1 a2 a3 a4 a5 a6 k
  unfold laws_plain.f
  repeat' first
      | (with_reducible exact laws_named.mono _ _ _ _ _ _ _ _ _)
      | (with_reducible exact LeO.refl _)
      | (with_reducible exact LeO.none _)
      | (with_reducible refine LeO.ite ?_ ?_)
      | (with_reducible refine LeO.bind ?_ (fun _ => ?_))
      | exact laws_named.mono _ _ _ _ _ _ _ _ _
      | exact LeO.none _
      | refine LeO.ite ?_ ?_
      | refine LeO.bind ?_ (fun _ => ?_)
set_option maxHeartbeats 8000000 in
set_option maxRecDepth 100000 in
theorem laws_plain.calls (k : Nat) (a0_0 : Int) (a0_1 : Int) (a0_2 : Int) (a0_3 : Int) (a0_4 : Int) (a1 : Int) (A2 : Option Addr) (c2 : Nat) (l2 : List Int) (r : List Int) (w : World) (hr2 : Kd.C (Kd.int .u8) w A2 l2.length l2) (hc2 : l2.length ≤ c2) (h : laws_plain.f k a0_0 a0_1 a0_2 a0_3 a0_4 a1 l2 = some r) :
    Calls Tryd.prog 15 #[.agg #[.int .i64 a0_0, .int .i64 a0_1, .int .i64 a0_2, .int .i64 a0_3, .int .i64 a0_4], .int .u64 a1, .slice A2 l2.length c2] w fun e w' => ∃ v0_ : Value, e = .returned (v0_) ∧ Kd.R (Kd.int .u8) 5 w' w.heap.size (fun _ => True) v0_ r ∧ Below w.heap.size w w' := by
  have hu31 := Tryd.underlying31
  have HR2 := Aside0.mk hr2
  have HC2 := Aside0.mk hc2
  clear hr2 hc2
  have HB := Aside0.mk (Below.refl w.heap.size w)
  have H : ((laws_named.f k a0_0 a0_1 a0_2 a0_3 a0_4 a1 l2 (⟨#[47, 97]⟩ : ByteArray)).bind fun t187 => (some t187)) = some r := h
  clear h
  replace H := Option.bind_eq_some_iff.mp H
  obtain ⟨t187, A40, H⟩ := H
  replace H : (some t187) = some r := H
  have A4 := Aside0.mk A40
  clear A40
  obtain rfl := Option.some.inj H
  go_enter Tryd.func15, Tryd.ntmps15
  go_wp2_with (first | ((with_reducible refine gate_dst (N := 3) rfl ?_); refine box_event ?hg (N := 3) ?hd (cs := #[.int .i64 a0_0, .int .i64 a0_1, .int .i64 a0_2, .int .i64 a0_3, .int .i64 a0_4]) (t := 31) ?hr ?_; (case hd => rfl); (case hg => rfl); (case hr => first | (go_simp; done) | (go_simp; rfl)); intro gb186 hg w5 hbox hb; have n0_ := Aside0.mk (below_step qB hb); have n1_ := Aside0.mk (hbox); have n2_ := Aside0.mk ((by rw [hg]; exact (below_size qB) : w.heap.size ≤ gb186)); have n3_ := Aside0.mk ((by rw [hg]; exact (below_size qB) : w.heap.size ≤ gb186)); clear HB; have HB := n0_; have BK186 := n1_; have GW186 := n2_; have GE186 := n3_; clear n0_ n1_ n2_ n3_; clear hb hbox hg; have hcz6_0 : w5.cell? ⟨gb186, 0, none⟩ = some (.int .i64 a0_0) := (blk_cell BK186.out 0).trans rfl; have hcz6_1 : w5.cell? ⟨gb186, 1, none⟩ = some (.int .i64 a0_1) := (blk_cell BK186.out 1).trans rfl; have hcz6_2 : w5.cell? ⟨gb186, 2, none⟩ = some (.int .i64 a0_2) := (blk_cell BK186.out 2).trans rfl; have hcz6_3 : w5.cell? ⟨gb186, 3, none⟩ = some (.int .i64 a0_3) := (blk_cell BK186.out 3).trans rfl; have hcz6_4 : w5.cell? ⟨gb186, 4, none⟩ = some (.int .i64 a0_4) := (blk_cell BK186.out 4).trans rfl; have hfz6_0 := blk_frozen BK186.out 0; have hfz6_1 := blk_frozen BK186.out 1; have hfz6_2 := blk_frozen BK186.out 2; have hfz6_3 := blk_frozen BK186.out 3; have hfz6_4 := blk_frozen BK186.out 4) | ((with_reducible refine gate_callee (f := 22) rfl ?_); refine goesL_ (some 10) rfl rfl Tryd.func22 (by kernel_rfl) rfl #[.agg #[.int .i64 a0_0, .int .i64 a0_1, .int .i64 a0_2, .int .i64 a0_3, .int .i64 a0_4], .int .u64 a1, .slice A2 l2.length c2, .string (⟨#[47, 97]⟩ : ByteArray)] rfl qL ?_; (with_reducible refine (laws_named.calls k a0_0 a0_1 a0_2 a0_3 a0_4 a1 _ _ l2 (⟨#[47, 97]⟩ : ByteArray) t187 _ ?side1 ?side2 A4.out).mono ?_); (case side1 => exact qC (Kd.C_below HR2.out HB.out)); (case side2 => exact HC2.out); rintro e w7 ⟨v188, rfl, ho0, hb⟩; refine ⟨_, rfl, ?_⟩; have n0_ := Aside0.mk (Kd.R_lower ho0 (below_size (qG GE186.out))); have n1_ := Aside0.mk (blk_below (g := gb186) (o := .cells #[.int .i64 a0_0, .int .i64 a0_1, .int .i64 a0_2, .int .i64 a0_3, .int .i64 a0_4] 31 (0, 0)) (qK BK186.out) hb); have n2_ := Aside0.mk (below_step (qG GE186.out) hb); clear BK186; clear HB; have HO189 := n0_; have BK186 := n1_; have HB := n2_; clear n0_ n1_ n2_; (try clear hb); (try clear hb2); (try clear hk); (try clear hi); (try clear ho0)))
  go_ret
  exact ⟨_, by first | rfl | (simp [errW_none, errW_some] <;> rfl) | (simp [*, errW_none, errW_some] <;> rfl), by (with_reducible repeat (first | apply Kd.R_alloc | apply Kd.R_drewN | apply Kd.R_drew)); exact HO189.out, by repeat (first | (with_reducible first | exact HB.out | apply below_alloc | apply pw_below_drewN | apply below_drew1 | refine below_set ?_ GE186.out) | exact HB.out)⟩

/-! ### laws_nexts: function 17 -/
def laws_nexts.f (a0 : Int) : Option ((List (S67))) := if 0 ≤ a0 then (if (a0 : Int).toNat ≤ 11728124029610 then (some (List.replicate (a0 : Int).toNat z67)) else (none)) else (none)
set_option maxHeartbeats 8000000 in
set_option maxRecDepth 100000 in
theorem laws_nexts.calls (a0 : Int) (r : List (S67)) (w : World) (h : laws_nexts.f a0 = some r) :
    Calls Tryd.prog 17 #[.int .i64 a0] w fun e w' => ∃ v0_ : Value, e = .returned (v0_) ∧ Kd.R k67 67 w' w.heap.size (fun _ => True) v0_ r ∧ Below w.heap.size w w' := by
  have HB := Aside0.mk (Below.refl w.heap.size w)
  have H : (if 0 ≤ a0 then (if (a0 : Int).toNat ≤ 11728124029610 then (some (List.replicate (a0 : Int).toNat z67)) else (none)) else (none)) = some r := h
  clear h
  by_cases c2 : 0 ≤ a0
  · rw [if_pos c2] at H
    have c2b0 := eq_true c2
    have c2b1 : decide (0 ≤ a0) = true := decide_eq_true c2
    clear c2
    by_cases c3 : (a0 : Int).toNat ≤ 11728124029610
    · rw [if_pos c3] at H
      have c3b0 := eq_true c3
      have c3b1 : decide ((a0 : Int).toNat ≤ 11728124029610) = true := decide_eq_true c3
      clear c3
      obtain ⟨y190, hy190⟩ : ∃ y_ : List (S67), y_ = (List.replicate (a0 : Int).toNat z67) := ⟨_, rfl⟩
      replace H : (some y190) = some r := by first | (rw [hy190]; with_reducible exact H) | (have H2_ := (Option.bind_some _ _).symm.trans H; rw [hy190]; with_reducible exact H2_) | (have H2_ := (Option.bind_some _ _).symm.trans H; with_reducible exact H2_) | with_reducible exact H | (rw [hy190]; exact H) | exact H
      have Ny190 := Aside0.mk hy190
      clear hy190
      obtain rfl := Option.some.inj H
      go_enter Tryd.func17, Tryd.ntmps17
      go_wp2_with (first | ((with_reducible refine gate_dst (N := 4) rfl ?_); refine Kd.R_make k67 _ 67 rfl (N := 4) rfl 33 _ _ rfl a0 rfl rfl Tryd.underlying33 (.agg #[(.int .i64 0), (.int .i64 0), (.int .u64 0)]) 24 info67 rfl (by decide) (by omega) z67 (ok := fun _ => True) (okp := fun _ => True) (k67_mkM _ _ _ z67 ) (fun _ hk => hk) trivial (of_decide_eq_true qA) (Nat.le_trans (Nat.mul_le_mul_right _ (of_decide_eq_true qA : a0.toNat ≤ 11728124029610)) (by omega)) (Below.refl _ _) (Nat.le_refl _) ?_; intro v191 w4 ho5 hb hg_ hnew_; clear hg_ hnew_; (first | rw [← Ny190.out] at ho5 | (simp only [Int.reduceToNat] at ho5; rw [← Ny190.out] at ho5)); have n0_ := Aside0.mk (Kd.R_lower ho5 (below_size qB)); have n1_ := Aside0.mk (below_step qB hb); clear HB; have HO192 := n0_; have HB := n1_; clear n0_ n1_; clear hb ho5))
      go_ret
      exact ⟨_, by first | rfl | (simp [errW_none, errW_some] <;> rfl) | (simp [*, errW_none, errW_some] <;> rfl), by (with_reducible repeat (first | apply Kd.R_alloc | apply Kd.R_drewN | apply Kd.R_drew)); exact HO192.out, by repeat (first | (with_reducible first | exact HB.out | apply below_alloc | apply pw_below_drewN | apply below_drew1) | exact HB.out)⟩
    · rw [if_neg c3] at H
      exact absurd H (by simp)
  · rw [if_neg c2] at H
    exact absurd H (by simp)

end Go.Proofs.YtdepfipebogdcaaDoor.PPl

/- Plain facts on LEB128: the bytes of numbers, no Go in sight. -/
namespace Go.Proofs.YtdepfipebogdcaaDoor.Leb
open Go

theorem and127_u8 (n : Nat) (h : n < 256) : Go.bits .and .u8 (n : Int) 127 = ((n % 128 : Nat) : Int) := by
  have := u8_and_nat n 127 h (by decide)
  rw [nat_mask7] at this
  exact this
theorem and128_u8 (n : Nat) (h : n < 256) : Go.bits .and .u8 (n : Int) 128 = ((n / 128 % 2 * 128 : Nat) : Int) := by
  have := u8_and_nat n 128 h (by decide)
  rw [show n &&& 128 = n / 128 % 2 * 128 from nat_bit 7 n] at this
  exact this
/-- The digits behind the first. -/
def dgs (n : Nat) : List Int := if h : n = 0 then [] else ((n % 128 : Nat) : Int) :: dgs (n / 128)
termination_by n
decreasing_by omega
theorem dgs_zero : dgs 0 = [] := by rw [dgs]; simp
theorem dgs_pos {n : Nat} (h : n ≠ 0) : dgs n = ((n % 128 : Nat) : Int) :: dgs (n / 128) := by rw [dgs, dif_neg h]

/-- All but the last with the bit that tells of another. -/
def carr : List Int → List Int
  | [] => []
  | [x] => [x]
  | x :: y :: ys => Go.bits .or .u8 x 128 :: carr (y :: ys)
theorem carr_length : ∀ l, (carr l).length = l.length
  | [] => rfl
  | [_] => rfl
  | x :: y :: ys => by simp [carr, carr_length (y :: ys)]
theorem or128_int (x : Int) (h0 : 0 ≤ x) (h : x < 128) : Go.bits .or .u8 x 128 = x + 128 := u8_or128_right x h0 h
end Go.Proofs.YtdepfipebogdcaaDoor.Leb

/- Plain facts on reading LEB128: the number that bytes tell, and how many of them; no Go in sight. -/
namespace Go.Proofs.YtdepfipebogdcaaDoor.Leb
open Go

/-- The number that bytes tell, and how many they are: up to the first below 128. -/
def uread : List Int → Option (Nat × Nat)
  | [] => none
  | b :: r => if b < 128 then some (b.toNat, 1) else (uread r).map fun p => ((b - 128).toNat + 128 * p.1, p.2 + 1)

def Bytes (l : List Int) : Prop := ∀ b ∈ l, 0 ≤ b ∧ b < 256
theorem Bytes.drop {l : List Int} (h : Bytes l) (n : Nat) : Bytes (l.drop n) := fun b hb => h b (List.mem_of_mem_drop hb)
theorem Bytes.take {l : List Int} (h : Bytes l) (n : Nat) : Bytes (l.take n) := fun b hb => h b (List.mem_of_mem_take hb)

theorem uread_count : ∀ {l : List Int} {v n : Nat}, uread l = some (v, n) → 0 < n ∧ n ≤ l.length
  | [], _, _, h => by simp [uread] at h
  | b :: r, v, n, h => by
    unfold uread at h
    split at h
    · simp at h; simp; omega
    · cases hr : uread r with
      | none => rw [hr] at h; simp at h
      | some p =>
        rw [hr] at h
        have := uread_count (l := r) (v := p.1) (n := p.2) hr
        simp at h; simp; omega

/-- Low bits and a number above them: 'or' adds them up, and what is too high is lost. -/
theorem or_shl_u64 (c b s : Nat) (hc : c < 2 ^ s) :
    Go.bits .or .u64 ((c % 18446744073709551616 : Nat) : Int) ((b * 2 ^ s % 18446744073709551616 : Nat) : Int) = (((c + b * 2 ^ s) % 18446744073709551616 : Nat) : Int) := by
  rw [u64_or_nat _ _ (Nat.mod_lt _ (by decide)) (Nat.mod_lt _ (by decide))]
  congr 1
  rw [show (18446744073709551616 : Nat) = 2 ^ 64 from rfl]
  rcases Nat.lt_or_ge s 64 with h | h
  · have h1 : c < 2 ^ 64 := Nat.lt_trans hc (Nat.pow_lt_pow_right (by decide) h)
    have e64 : (2 : Nat) ^ 64 = 2 ^ s * 2 ^ (64 - s) := by rw [← Nat.pow_add]; congr 1; omega
    have e : b * 2 ^ s % 2 ^ 64 = 2 ^ s * (b % 2 ^ (64 - s)) := by rw [Nat.mul_comm b, e64, Nat.mul_mod_mul_left]
    have hx : b % 2 ^ (64 - s) < 2 ^ (64 - s) := Nat.mod_lt _ (Nat.pow_pos (by decide))
    have hsum : 2 ^ s * (b % 2 ^ (64 - s)) + c < 2 ^ 64 := by
      have : 2 ^ s * (b % 2 ^ (64 - s) + 1) ≤ 2 ^ s * 2 ^ (64 - s) := Nat.mul_le_mul_left _ hx
      rw [Nat.mul_add, Nat.mul_one, ← e64] at this
      omega
    rw [Nat.mod_eq_of_lt h1, e, Nat.or_comm, ← Nat.two_pow_add_eq_or_of_lt hc, ← Nat.mod_eq_of_lt hsum, ← e, Nat.add_comm]
    rw [Nat.add_mod, Nat.mod_mod, ← Nat.add_mod]
  · obtain ⟨d, rfl⟩ := Nat.exists_eq_add_of_le h
    have e : b * 2 ^ (64 + d) % 2 ^ 64 = 0 := by rw [Nat.pow_add, ← Nat.mul_assoc, Nat.mul_right_comm]; exact Nat.mul_mod_left _ _
    rw [e, Nat.or_zero, Nat.add_mod, e, Nat.add_zero, Nat.mod_mod]

theorem shl_u64 (x s : Nat) : IntKind.u64.wrap ((x : Int) * 2 ^ min s 64) = ((x * 2 ^ s % 18446744073709551616 : Nat) : Int) := by
  have e : x * 2 ^ min s 64 % 18446744073709551616 = x * 2 ^ s % 18446744073709551616 := by
    rcases Nat.le_total s 64 with h | h
    · rw [Nat.min_eq_left h]
    · rw [Nat.min_eq_right h]
      obtain ⟨d, rfl⟩ := Nat.exists_eq_add_of_le h
      rw [show (18446744073709551616 : Nat) = 2 ^ 64 from rfl, Nat.pow_add, ← Nat.mul_assoc, Nat.mul_right_comm]
      rw [Nat.mul_mod_left, Nat.mul_mod_left]
  rw [← e]
  have h : ((x : Int) * 2 ^ min s 64) = ((x * 2 ^ min s 64 : Nat) : Int) := by push_cast; rfl
  rw [h]
  simp [IntKind.wrap, IntKind.signed, IntKind.bits]

/-- What the bytes ahead of place i tell. -/
def low : List Int → Nat → Nat
  | _, 0 => 0
  | [], _ + 1 => 0
  | b :: r, n + 1 => (b % 128).toNat + 128 * low r n
theorem low_lt : ∀ (l : List Int) (n : Nat), low l n < 128 ^ n
  | _, 0 => by simp [low]
  | [], n + 1 => by simp only [low]; exact Nat.pow_pos (by decide)
  | b :: r, n + 1 => by
    have h := low_lt r n
    have : (b % 128).toNat < 128 := by omega
    simp only [low, Nat.pow_succ]
    omega
theorem low_step : ∀ (l : List Int) (n : Nat) (h : n < l.length), low l (n + 1) = low l n + (l[n] % 128).toNat * 128 ^ n
  | [], _, h => by simp at h
  | b :: r, 0, _ => by simp [low]
  | b :: r, n + 1, h => by
    have hlt : n < r.length := by simpa using h
    have hs := low_step r n hlt
    rw [low, hs]
    simp only [low, List.getElem_cons_succ, Nat.pow_succ]
    rw [Nat.mul_add, Nat.mul_comm (128 ^ n) 128, ← Nat.mul_assoc, ← Nat.mul_assoc, Nat.mul_comm 128 (r[n] % 128).toNat, Nat.add_assoc]
/-- The first byte below 128 stands at place n. -/
theorem uread_at : ∀ (l : List Int) (n : Nat) (h : n < l.length), Bytes l → (∀ j (hj : j < n), 128 ≤ l[j]) → l[n] < 128 → uread l = some (low l (n + 1), n + 1)
  | [], _, h, _, _, _ => by simp at h
  | b :: r, 0, _, hb, _, hn => by
    have := hb b (by simp)
    simp only [List.getElem_cons_zero] at hn
    rw [uread, if_pos hn]
    simp [low]; omega
  | b :: r, n + 1, h, hb, hj, hn => by
    have h0 := hj 0 (by omega)
    have hb0 := hb b (by simp)
    simp only [List.getElem_cons_zero] at h0
    have ih := uread_at r n (by simpa using h) (fun x hx => hb x (by simp [hx])) (fun j hj' => by have := hj (j + 1) (by omega); simpa using this) (by simpa using hn)
    rw [uread, if_neg (by omega), ih]
    simp [low]; omega
theorem uread_none : ∀ (l : List Int), (∀ j (hj : j < l.length), 128 ≤ l[j]) → uread l = none
  | [], _ => rfl
  | b :: r, h => by
    have h0 := h 0 (by simp)
    simp only [List.getElem_cons_zero] at h0
    rw [uread, if_neg (by omega), uread_none r (fun j hj => by have := h (j + 1) (by simpa using hj); simpa using this)]
    rfl

theorem uread_lt : ∀ {l : List Int} {v n : Nat}, Bytes l → uread l = some (v, n) → v < 128 ^ n
  | [], _, _, _, h => by simp [uread] at h
  | b :: r, v, n, hb, h => by
    unfold uread at h
    split at h
    · simp at h; have := hb b (by simp); obtain ⟨rfl, rfl⟩ := h; simp; omega
    · cases hr : uread r with
      | none => rw [hr] at h; simp at h
      | some p =>
        rw [hr] at h
        have h1 := uread_lt (l := r) (v := p.1) (n := p.2) (fun x hx => hb x (by simp [hx])) hr
        have h2 := hb b (by simp)
        simp at h
        obtain ⟨rfl, rfl⟩ := h
        rw [Nat.pow_succ]
        omega

theorem i64_pat (x : Int) : ((BitVec.ofInt 64 x).toNat : Int) = x % 18446744073709551616 := by
  rw [BitVec.toNat_ofInt, Int.toNat_of_nonneg (Int.emod_nonneg _ (by decide))]
  rfl
theorem i64_pat_nat (v : Nat) (h : v < 18446744073709551616) : (BitVec.ofInt 64 (v : Int)).toNat = v := by
  have := i64_pat (v : Int)
  omega
/-- Is bit s set? -/
theorem and_bit_i64 (v s : Nat) (hv : v < 9223372036854775808) (hs : s < 63) : Go.bits .and .i64 (v : Int) ((2 ^ s : Nat) : Int) = ((v / 2 ^ s % 2 * 2 ^ s : Nat) : Int) := by
  have hp : (2 : Nat) ^ s < 2 ^ 63 := Nat.pow_lt_pow_right (by decide) hs
  have hp' : (2 : Nat) ^ s < 9223372036854775808 := hp
  show IntKind.i64.wrap ((BitVec.ofInt 64 (v : Int) &&& BitVec.ofInt 64 ((2 ^ s : Nat) : Int)).toNat : Int) = _
  rw [BitVec.toNat_and, i64_pat_nat _ (by omega), i64_pat_nat (2 ^ s) (Nat.lt_trans hp' (by decide)), nat_bit s, IntKind.wrap_i64]
  have h4 : v / 2 ^ s % 2 = 0 ∨ v / 2 ^ s % 2 = 1 := by omega
  rcases h4 with h4 | h4 <;> rw [h4] <;> omega
/-- A sign is set above the bits. -/
theorem or_sign_i64 (v s : Nat) (hv : v < 2 ^ s) (hs : s ≤ 63) : Go.bits .or .i64 (v : Int) (-((2 ^ s : Nat) : Int)) = (v : Int) - ((2 ^ s : Nat) : Int) := by
  have hp : (2 : Nat) ^ s ≤ 2 ^ 63 := Nat.pow_le_pow_right (by decide) hs
  have hp' : (2 : Nat) ^ s ≤ 9223372036854775808 := hp
  have e64 : (18446744073709551616 : Nat) = 2 ^ s * 2 ^ (64 - s) := by rw [← Nat.pow_add, show s + (64 - s) = 64 by omega]
  have e1 : (BitVec.ofInt 64 (-((2 ^ s : Nat) : Int))).toNat = 2 ^ s * (2 ^ (64 - s) - 1) := by
    have h1 := i64_pat (-((2 ^ s : Nat) : Int))
    have h2 : 2 ^ s * (2 ^ (64 - s) - 1) = 18446744073709551616 - 2 ^ s := by rw [Nat.mul_sub, Nat.mul_one, ← e64]
    have hpos : 0 < 2 ^ s := Nat.pow_pos (by decide)
    rw [h2]
    omega
  show IntKind.i64.wrap ((BitVec.ofInt 64 (v : Int) ||| BitVec.ofInt 64 (-((2 ^ s : Nat) : Int))).toNat : Int) = _
  rw [BitVec.toNat_or, i64_pat_nat _ (by omega), e1, Nat.or_comm, ← Nat.two_pow_add_eq_or_of_lt hv, IntKind.wrap_i64, Nat.mul_sub, Nat.mul_one, ← e64]
  have hpos : 0 < 2 ^ s := Nat.pow_pos (by decide)
  omega
theorem and_zero_i64 (x : Int) : Go.bits .and .i64 x 0 = 0 := by
  show IntKind.i64.wrap ((BitVec.ofInt 64 x &&& BitVec.ofInt 64 0).toNat : Int) = _
  simp [IntKind.wrap_i64]
/-- A shift of one, and of minus one. -/
theorem shl_one_i64 (s : Nat) (hs : s < 63) : IntKind.i64.wrap ((1 : Int) * 2 ^ min s 64) = ((2 ^ s : Nat) : Int) := by
  have hp : (2 : Nat) ^ s < 2 ^ 63 := Nat.pow_lt_pow_right (by decide) hs
  have hp' : (2 : Nat) ^ s < 9223372036854775808 := hp
  rw [Nat.min_eq_left (by omega), IntKind.wrap_i64, Int.one_mul, show ((2 : Int) ^ s) = ((2 ^ s : Nat) : Int) by push_cast; rfl]
  clear hp
  generalize (2 : Nat) ^ s = P at *
  omega
theorem shl_mone_i64 (s : Nat) (hs : s ≤ 63) : IntKind.i64.wrap ((-1 : Int) * 2 ^ min s 64) = -((2 ^ s : Nat) : Int) := by
  have hp : (2 : Nat) ^ s ≤ 2 ^ 63 := Nat.pow_le_pow_right (by decide) hs
  have hp' : (2 : Nat) ^ s ≤ 9223372036854775808 := hp
  rw [Nat.min_eq_left (by omega), IntKind.wrap_i64, show ((2 : Int) ^ s) = ((2 ^ s : Nat) : Int) by push_cast; rfl]
  clear hp
  generalize (2 : Nat) ^ s = P at *
  omega
theorem shl_one_far (s : Nat) (hs : 64 ≤ s) : IntKind.i64.wrap ((1 : Int) * 2 ^ min s 64) = 0 := by
  rw [Nat.min_eq_right hs]; decide

/-- The signed number that n bytes tell. -/
def sval (v n : Nat) : Int := if n ≤ 9 then (if v / 2 ^ (7 * n - 1) % 2 = 1 then (v : Int) - ((2 ^ (7 * n) : Nat) : Int) else (v : Int)) else IntKind.i64.wrap (v : Int)
/-- Two bytes in an order. -/
def two (big : Bool) (b0 b1 : Int) : Int := if big then b1 + 256 * b0 else b0 + 256 * b1
theorem two_lt (big : Bool) {b0 b1 : Int} (h0 : 0 ≤ b0 ∧ b0 < 256) (h1 : 0 ≤ b1 ∧ b1 < 256) : 0 ≤ two big b0 b1 ∧ two big b0 b1 < 65536 := by
  unfold two; split <;> omega
/-- Four bytes in an order. -/
def four (big : Bool) (b0 b1 b2 b3 : Int) : Int := if big then two big b2 b3 + 65536 * two big b0 b1 else two big b0 b1 + 65536 * two big b2 b3
theorem four_lt (big : Bool) {b0 b1 b2 b3 : Int} (h0 : 0 ≤ b0 ∧ b0 < 256) (h1 : 0 ≤ b1 ∧ b1 < 256) (h2 : 0 ≤ b2 ∧ b2 < 256) (h3 : 0 ≤ b3 ∧ b3 < 256) : 0 ≤ four big b0 b1 b2 b3 ∧ four big b0 b1 b2 b3 < 4294967296 := by
  have h4 := two_lt big h0 h1
  have h5 := two_lt big h2 h3
  unfold four; split <;> omega
/-- Eight bytes in an order. -/
def eight (big : Bool) (b0 b1 b2 b3 b4 b5 b6 b7 : Int) : Int := if big then four big b4 b5 b6 b7 + 4294967296 * four big b0 b1 b2 b3 else four big b0 b1 b2 b3 + 4294967296 * four big b4 b5 b6 b7
end Go.Proofs.YtdepfipebogdcaaDoor.Leb

/- The contracts of the reader of bytes (package dwarf, type buf), proved by hand: numbers in LEB128, errors, texts. -/
namespace Go.Proofs.YtdepfipebogdcaaDoor.Buf
set_option maxRecDepth 100000
open Go.RowKit Go.Proofs.YtdepfipebogdcaaDoorW.PrintWords Go.Proofs.YtdepfipebogdcaaDoorW.PrintLast Go.Proofs.YtdepfipebogdcaaDoorW.PrintMore Go.Proofs.YtdepfipebogdcaaDoor.Leb

abbrev u8s := Kd.int .u8
theorem rd_nat (l : List Int) (i : Nat) (h : i < l.length) : rd l (i : Int) = l[i] := by
  unfold rd; simp [List.getD_eq_getElem?_getD, List.getElem?_eq_getElem h]
/-- The reader stands n bytes further on. -/
def After (w : World) (g : Nat) (off : Int) (l : List Int) (n : Nat) (w' : World) : Prop :=
  ∃ A cap, Kd.C u8s w A (l.drop n).length (l.drop n) ∧ (l.drop n).length ≤ cap ∧ w' = (w.setCell ⟨g, 4, none⟩ (.int .u32 ((off + n) % 4294967296))).setCell ⟨g, 5, none⟩ (.slice A (l.drop n).length cap)
theorem after_mk {w : World} {g : Nat} {off : Int} {l : List Int} {n : Nat} {A : Option Addr} {cap : Nat} (HR : Kd.C u8s w A l.length l) (hcap : l.length ≤ cap) (hn : n ≤ l.length) :
    After w g off l n ((w.setCell ⟨g, 4, none⟩ (.int .u32 ((off + n) % 4294967296))).setCell ⟨g, 5, none⟩ (.slice (if cap = n then A else A.map (·.add n)) (l.length - n) (cap - n))) := by
  refine ⟨if cap = n then A else A.map (·.add n), cap - n, ?_, ?_, ?_⟩
  · have := Kd.C_drop (c := cap) (m := n) HR hn hcap
    simpa [Kd.int, Kd.scalar] using this
  · rw [List.length_drop]; omega
  · rw [List.length_drop]
/-- What varint leaves. -/
def VPost (w : World) (g : Nat) (off : Int) (l : List Int) : Option (Nat × Nat) → Ending → World → Prop
  | none, e, w' => e = .returned (.tuple #[.int .u64 0, .int .u64 0]) ∧ w' = w
  | some (v, n), e, w' => e = .returned (.tuple #[.int .u64 ((v % 18446744073709551616 : Nat) : Int), .int .u64 ((7 * n : Nat) : Int)]) ∧ After w g off l n w'
/-- No number is told: nothing changes. -/
theorem varint_calls (g : Nat) (A : Option Addr) (cap : Nat) (l : List Int) (off : Int) (w : World) (hl : l.length < 2147483648) (hb : Bytes l)
    (q5 : w.cell? ⟨g, 5, none⟩ = some (.slice A l.length cap)) (q4 : w.cell? ⟨g, 4, none⟩ = some (.int .u32 off)) (f5 : w.frozen? ⟨g, 5, none⟩ = false) (f4 : w.frozen? ⟨g, 4, none⟩ = false)
    (HR : Kd.C u8s w A l.length l) (hcap : l.length ≤ cap) :
    Calls Tryd.prog 63 #[.pointer (some ⟨g, 0, none⟩)] w fun e w' => VPost w g off l (uread l) e w' := by
  have HR0 := Aside0.mk HR
  have HL0 := Aside0.mk hl
  have HCAP := Aside0.mk hcap
  clear HR hl hcap
  have n0 : g < w.heap.size := World.block_lt_of_cell? w _ q5
  go_enter Tryd.func63, Tryd.ntmps63
  go_wp2
  go_loopg [2, 3, 4] l.length (fun kq v2 v3 v4 w' => ∃ i : Nat, v4 = .int .i64 (i : Int) ∧ v2 = .int .u64 ((low l i % 18446744073709551616 : Nat) : Int) ∧ v3 = .int .u64 ((7 * i : Nat) : Int) ∧ i ≤ l.length ∧ kq = l.length - i ∧ (∀ j (hj : j < l.length), j < i → 128 ≤ l[j]) ∧ w' = w)
  case atStart => exact ⟨0, rfl, by simp [low], rfl, by omega, by omega, fun _ _ h => by omega, rfl⟩
  case round =>
    obtain ⟨i, rfl, rfl, rfl, hi, hk, hj, rfl⟩ := hrel
    by_cases c : i < l.length
    · have c0 : decide ((i : Int) < (l.length : Int)) = true := by simpa using c
      have p1 : (0 ≤ (i : Int)) := by omega
      have q1 : ((i : Int) < (l.length : Int)) := by omega
      obtain ⟨ad, e1, hx⟩ := Kd.at_int HR0.out (i : Int) p1 q1
      cases e1
      rw [Int.toNat_natCast] at hx
      obtain ⟨n, hn⟩ : ∃ n : Nat, rd l (i : Int) = (n : Int) := ⟨l[i].toNat, by rw [rd_nat l i c]; have := (hb l[i] (List.getElem_mem c)).1; omega⟩
      have hn' : l[i] = (n : Int) := by rw [← hn, rd_nat l i c]
      have hn2 : n < 256 := by have := (hb l[i] (List.getElem_mem c)).2; omega
      rw [hn] at hx
      obtain ⟨M, S, T, C, C', h127, hMw, hS0, hT1, hT2, hO, hS, hC, hS', hC', hS7⟩ : ∃ M S T C C' : Int, Go.bits .and .u8 (n : Int) 127 = M ∧ IntKind.u64.wrap M = M ∧ (0 ≤ S) = True ∧ IntKind.u64.wrap (M * 2 ^ min S.toNat 64) = T ∧ (S ≤ 64 → IntKind.u64.wrap (M * 2 ^ S.toNat) = T) ∧ Go.bits .or .u64 C T = C' ∧ ((7 * i : Nat) : Int) = S ∧ ((low l i % 18446744073709551616 : Nat) : Int) = C ∧ Aside0 (S + 7 = ((7 * (i + 1) : Nat) : Int)) ∧ Aside0 (C' = ((low l (i + 1) % 18446744073709551616 : Nat) : Int)) ∧ IntKind.u64.wrap (S + 7) = S + 7 := by
        have e128 : (2 : Nat) ^ (7 * i) = 128 ^ i := by rw [Nat.pow_mul]
        have hl1 := HL0.out
        have hT1 : IntKind.u64.wrap (((n % 128 : Nat) : Int) * 2 ^ min ((7 * i : Nat) : Int).toNat 64) = (((n % 128) * 2 ^ (7 * i) % 18446744073709551616 : Nat) : Int) := by rw [Int.toNat_natCast]; exact shl_u64 _ _
        refine ⟨_, _, _, _, _, and127_u8 n hn2, ?_, eq_true (by omega), hT1, fun h => ?_, ?_, rfl, rfl, ⟨by omega⟩, ⟨rfl⟩, ?_⟩
        · simp [IntKind.wrap, IntKind.signed, IntKind.bits]; omega
        · rw [← hT1, Nat.min_eq_left (by omega)]
        · rw [or_shl_u64 _ _ _ (by rw [e128]; exact low_lt l i), low_step l i c, hn', e128]
          congr 3
        · simp [IntKind.wrap, IntKind.signed, IntKind.bits]; omega
      rw [hS, hC]
      clear hS hC
      have p4 : IntKind.i64.wrap ((i : Int) + 1) = ((i + 1 : Nat) : Int) := by
        have := HL0.out
        simp [IntKind.wrap, IntKind.signed, IntKind.bits]; omega
      replace p1 := eq_true p1
      replace q1 := eq_true q1
      have HB := Aside0.mk hb
      have HJ := Aside0.mk hj
      have HN := Aside0.mk hn'
      have HK := Aside0.mk hk
      clear hn hn' hj hb hk
      by_cases c2 : n < 128
      · have h128 : Go.bits .and .u8 (n : Int) 128 = 0 := by rw [and128_u8 n hn2]; omega
        have C2 := Aside0.mk c2
        have HN2 := Aside0.mk hn2
        clear c2 hn2
        have HU : Aside0 (uread l = some (low l (i + 1), i + 1)) := ⟨uread_at l i c HB.out (fun j hj' => HJ.out j (by omega) hj') (by rw [HN.out]; have := C2.out; omega)⟩
        have HS := Aside0.mk (after_mk (g := g) (off := off) (n := i + 1) HR0.out HCAP.out c)
        go_wp2
        all_goals (go_ret2; rw [HU.out]; refine ⟨?_, ?_⟩)
        all_goals first | (rw [← hC'.out, ← hS'.out]; rfl) | (have h1_ := HS.out; simpa [*, Addr.add] using h1_)
      · have h128 : Go.bits .and .u8 (n : Int) 128 = 128 := by rw [and128_u8 n hn2]; omega
        have C2 := Aside0.mk c2
        have HN2 := Aside0.mk hn2
        clear c2 hn2
        go_wp2
        go_roundg (l.length - (i + 1))
        case measure => have := HK.out; omega
        case rel =>
          refine ⟨i + 1, rfl, by rw [← hC'.out], by rw [← hS'.out], by omega, rfl, fun j hj' hji => ?_, rfl⟩
          by_cases hc : j = i
          · subst hc
            rw [HN.out]
            have := C2.out
            omega
          · exact HJ.out j hj' (by omega)
    · have c0 : decide ((i : Int) < (l.length : Int)) = false := by simpa using c
      have HU : Aside0 (uread l = none) := ⟨uread_none l (fun j hj' => hj j hj' (by omega))⟩
      go_wp2
      go_ret2
      rw [HU.out]
      exact ⟨rfl, rfl⟩

/-- The error that is told. -/
abbrev errv (nm s : ByteArray) (off : Int) : Value := .iface 97 (.agg #[.string nm, .int .u32 off, .string s])
/-- What an error leaves: no bytes, and the error. -/
def Erred (w : World) (g : Nat) (nm : ByteArray) (off : Int) (w' : World) : Prop :=
  ∃ s m, w' = ((w.setCell ⟨g, 5, none⟩ (.slice none 0 0)).setCell ⟨g, 6, none⟩ (errv nm s off)).drewN m
theorem error_calls (g : Nat) (v5 : Value) (nm s : ByteArray) (off : Int) (w : World)
    (q3 : w.cell? ⟨g, 3, none⟩ = some (.string nm)) (q4 : w.cell? ⟨g, 4, none⟩ = some (.int .u32 off)) (q5 : w.cell? ⟨g, 5, none⟩ = some v5) (q6 : w.cell? ⟨g, 6, none⟩ = some .nilIface)
    (f5 : w.frozen? ⟨g, 5, none⟩ = false) (f6 : w.frozen? ⟨g, 6, none⟩ = false) :
    Calls Tryd.prog 52 #[.pointer (some ⟨g, 0, none⟩), .string s] w fun e w' => e = .returned (.tuple #[]) ∧ Erred w g nm off w' := by
  have n0 : g < w.heap.size := World.block_lt_of_cell? w _ q5
  go_enter Tryd.func52, Tryd.ntmps52
  go_wp2
  go_region
  all_goals go_wp2
  all_goals (go_end0; exact ⟨rfl, s, 1, rfl⟩)
/-- A second error is none. -/
theorem error_again (g : Nat) (t : Nat) (v6 : Value) (s : ByteArray) (w : World) (q6 : w.cell? ⟨g, 6, none⟩ = some (.iface t v6)) :
    Calls Tryd.prog 52 #[.pointer (some ⟨g, 0, none⟩), .string s] w fun e w' => e = .returned (.tuple #[]) ∧ w' = w := by
  have n0 : g < w.heap.size := World.block_lt_of_cell? w _ q6
  go_enter Tryd.func52, Tryd.ntmps52
  go_wp2
  go_end0
  exact ⟨rfl, rfl⟩
theorem size69 : (Tryd.prog.info? 82).map (·.size) = some 7 := by kernel_rfl
/-- A reader of its own, by value. -/
theorem makeBuf_calls (gd : Nat) (ft : Nat) (fv : Value) (nm : ByteArray) (off : Int) (A : Option Addr) (cap n : Nat) (b : Bool) (w : World) (q : w.cell? ⟨gd, 14, none⟩ = some (.bool b)) :
    Calls Tryd.prog 28 #[.pointer (some ⟨gd, 0, none⟩), .iface ft fv, .string nm, .int .u32 off, .slice A n cap] w fun e w' =>
      e = .returned (.agg #[.pointer (some ⟨gd, 0, none⟩), .bool b, .iface ft fv, .string nm, .int .u32 off, .slice A n cap, .nilIface]) ∧ w' = w.alloc (.cells #[.pointer (some ⟨gd, 0, none⟩), .bool b, .iface ft fv, .string nm, .int .u32 off, .slice A n cap, .nilIface] 82) := by
  have n0 : gd < w.heap.size := World.block_lt_of_cell? w _ q
  go_enter Tryd.func28, Tryd.ntmps28
  go_wp2
  refine bodyPost_ret (results_cell_row rfl _ _ _ _ _ _ _ rfl (heap_alloc_new _ _) Tryd.underlying82 rfl size69) rfl ⟨rfl, rfl⟩
/-- The parts of a signed number, as the code comes by them. -/
theorem sval_parts (v n : Nat) (hn : 0 < n) (hv : v < 128 ^ n) (hnn : n < 2147483648) : ∃ S S' X P B : Int, ((7 * n : Nat) : Int) = S ∧ (S == 0) = false ∧ decide (S = 0) = false ∧ IntKind.u64.wrap (S - 1) = S' ∧ (0 ≤ S) = True ∧ (0 ≤ S') = True ∧ IntKind.i64.wrap ((v % 18446744073709551616 : Nat) : Int) = X ∧ IntKind.i64.wrap (1 * 2 ^ min S'.toNat 64) = P ∧ Go.bits .and .i64 X P = B ∧ ((B = 0 ∧ X = sval v n) ∨ ((B != 0) = true ∧ decide (B = 0) = false ∧ ∃ M, IntKind.i64.wrap (-1 * 2 ^ min S.toNat 64) = M ∧ Go.bits .or .i64 X M = sval v n)) := by
  have e128 : (128 : Nat) ^ n = 2 ^ (7 * n) := by rw [Nat.pow_mul]
  have hS' : IntKind.u64.wrap (((7 * n : Nat) : Int) - 1) = ((7 * n - 1 : Nat) : Int) := by simp [IntKind.wrap, IntKind.signed, IntKind.bits]; omega
  refine ⟨_, _, _, _, _, rfl, by simp; omega, by simp; omega, hS', eq_true (by omega), eq_true (by omega), rfl, rfl, rfl, ?_⟩
  by_cases h9 : n ≤ 9
  · have hv63 : v < 9223372036854775808 := by
      have h1 : (2 : Nat) ^ (7 * n) ≤ 2 ^ 63 := Nat.pow_le_pow_right (by decide) (by omega)
      have h2 : (2 : Nat) ^ 63 = 9223372036854775808 := rfl
      omega
    have hX : IntKind.i64.wrap ((v % 18446744073709551616 : Nat) : Int) = (v : Int) := by rw [IntKind.wrap_i64]; omega
    have hP : IntKind.i64.wrap (1 * 2 ^ min ((7 * n - 1 : Nat) : Int).toNat 64) = ((2 ^ (7 * n - 1) : Nat) : Int) := by rw [Int.toNat_natCast]; exact shl_one_i64 _ (by omega)
    rw [hX, hP, and_bit_i64 v _ hv63 (by omega)]
    by_cases hb : v / 2 ^ (7 * n - 1) % 2 = 1
    · right
      have hpos : 0 < 2 ^ (7 * n - 1) := Nat.pow_pos (by decide)
      have hne : ¬ ((1 * 2 ^ (7 * n - 1) : Nat) : Int) = 0 := by rw [Nat.one_mul]; generalize 2 ^ (7 * n - 1) = Q at *; omega
      refine ⟨by rw [hb]; simpa using hne, by rw [hb]; exact decide_eq_false hne, -((2 ^ (7 * n) : Nat) : Int), by rw [Int.toNat_natCast]; exact shl_mone_i64 _ (by omega), ?_⟩
      rw [or_sign_i64 v _ (by rw [← e128]; exact hv) (by omega), sval, if_pos h9, if_pos hb]
    · left
      have hb0 : v / 2 ^ (7 * n - 1) % 2 = 0 := by omega
      refine ⟨by rw [hb0]; simp, by rw [sval, if_pos h9, if_neg hb]⟩
  · left
    have hP : IntKind.i64.wrap (1 * 2 ^ min ((7 * n - 1 : Nat) : Int).toNat 64) = 0 := by rw [Int.toNat_natCast]; exact shl_one_far _ (by omega)
    rw [hP, and_zero_i64]
    refine ⟨rfl, ?_⟩
    rw [sval, if_neg h9, IntKind.wrap_i64, IntKind.wrap_i64]
    omega
/-- What int leaves. -/
def IPost (w : World) (g : Nat) (nm : ByteArray) (off : Int) (l : List Int) : Option (Nat × Nat) → Ending → World → Prop
  | none, e, w' => e = .returned (.int .i64 0) ∧ Erred w g nm off w'
  | some (v, n), e, w' => e = .returned (.int .i64 (sval v n)) ∧ After w g off l n w'
set_option maxHeartbeats 400000 in
theorem int_calls (g : Nat) (A : Option Addr) (cap : Nat) (l : List Int) (off : Int) (nm : ByteArray) (w : World) (hl : l.length < 2147483648) (hb : Bytes l)
    (q3 : w.cell? ⟨g, 3, none⟩ = some (.string nm)) (q6 : w.cell? ⟨g, 6, none⟩ = some .nilIface) (f6 : w.frozen? ⟨g, 6, none⟩ = false)
    (q5 : w.cell? ⟨g, 5, none⟩ = some (.slice A l.length cap)) (q4 : w.cell? ⟨g, 4, none⟩ = some (.int .u32 off)) (f5 : w.frozen? ⟨g, 5, none⟩ = false) (f4 : w.frozen? ⟨g, 4, none⟩ = false)
    (HR : Kd.C u8s w A l.length l) (hcap : l.length ≤ cap) :
    Calls Tryd.prog 68 #[.pointer (some ⟨g, 0, none⟩)] w fun e w' => IPost w g nm off l (uread l) e w' := by
  have HV := Aside0.mk (varint_calls g A cap l off w hl hb q5 q4 f5 f4 HR hcap)
  have HL0 := Aside0.mk hl
  have HB0 := Aside0.mk hb
  have n0 : g < w.heap.size := World.block_lt_of_cell? w _ q5
  have HE := Aside0.mk (error_calls g _ nm (ByteArray.mk #[117, 110, 100, 101, 114, 102, 108, 111, 119]) off w q3 q4 q5 q6 f5 f6)
  clear HR hl hcap hb
  go_enter Tryd.func68, Tryd.ntmps68
  go_wp2_with fail
  refine HV.out.mono ?_
  cases hu : uread l with
  | none =>
    have HU := Aside0.mk hu
    have ha := and_zero_i64 0
    have hu1 : IntKind.u64.wrap (-1) = 18446744073709551615 := by decide
    have hm : wrap64 18446744073709551616 = 0 := (i64_w _).symm.trans (by decide)
    clear hu
    rintro e w1 ⟨rfl, rfl⟩
    go_wp2_with fail
    refine HE.out.mono ?_
    rintro e w2 ⟨rfl, he⟩
    have HER := Aside0.mk he
    clear he
    go_wp2_with fail
    go_ret
    rw [HU.out]
    exact ⟨rfl, HER.out⟩
  | some p =>
    obtain ⟨v, n⟩ := p
    have hn : 0 < n := (uread_count hu).1
    have hv : v < 128 ^ n := uread_lt HB0.out hu
    have HU := Aside0.mk hu
    clear hu HV
    rintro e w1 ⟨rfl, he⟩
    have HER := Aside0.mk he
    clear he
    obtain ⟨S, S', X, P, B, hS, c1, c2, hS', p1, p2, hX, hP, hB, hcase⟩ := sval_parts v n hn hv (by have := (uread_count HU.out).2; have := HL0.out; omega)
    obtain ⟨V, hV⟩ : ∃ V : Int, ((v % 18446744073709551616 : Nat) : Int) = V := ⟨_, rfl⟩
    rw [hV] at hX
    rw [hS, hV]
    clear hS hV hv hn
    have hP1 : wrap64 (2 ^ min S'.toNat 64) = P := by rw [← hP, Int.one_mul, i64_w]
    rcases hcase with ⟨hB0, hsv⟩ | ⟨hB0, hB1, M, hM, hsv⟩
    · subst hB0
      have HSV := Aside0.mk hsv
      clear hsv
      go_wp2_with fail
      go_ret
      rw [HU.out]
      exact ⟨by rw [← HSV.out]; rfl, HER.out⟩
    · obtain ⟨R, hR⟩ : ∃ R : Int, sval v n = R := ⟨_, rfl⟩
      rw [hR] at hsv
      have HSV := Aside0.mk hR
      have hM1 : wrap64 (-1 * 2 ^ min S.toNat 64) = M := by rw [← hM, i64_w]
      have hM2 : wrap64 (-2 ^ min S.toNat 64) = M := by rw [← hM1, Int.neg_mul, Int.one_mul]
      clear hR
      go_wp2_with fail
      go_ret
      rw [HU.out]
      exact ⟨by rw [HSV.out]; rfl, HER.out⟩
theorem run_indexByte_any {P : Program} (w : World) (a : Addr) (n c : Nat) (xs : List Int) (cv : Int) (hx : xs.length = n) (hc : ∀ i, i < n → w.cell? (a.add i) = some (.int .u8 (xs.getD i 0))) :
    (Extern.BytealgIndexByte.indexByte #[.slice (some a) n c, .int .u8 cv]).run P w = .ok (.int .i64 (Lib.indexByte (Lib.bytesOf xs) cv.toNat.toUInt8)) w := by
  have hl := Lib.run_loadBytesX (P := P) w xs a .empty (fun j x hj => by
    obtain ⟨hjl, he⟩ := List.getElem?_eq_some_iff.1 hj
    rw [hc j (by omega), List.getD_eq_getElem?_getD, hj]
    rfl)
  rw [hx] at hl
  have hs := Lib.run_indexByteString (P := P) ⟨(Lib.bytesOf xs).toArray⟩ cv w
  have he : (⟨ByteArray.empty.data ++ (Lib.bytesOf xs).toArray⟩ : ByteArray) = ⟨(Lib.bytesOf xs).toArray⟩ := by
    apply ByteArray.ext
    show (#[] : Array UInt8) ++ (Lib.bytesOf xs).toArray = (Lib.bytesOf xs).toArray
    simp
  rw [he] at hl
  change Sem.run P (do
    let b ← Extern.Bytes.bytesOf (.slice (some a) n c)
    let c ← Extern.Bytes.asByte (.int .u8 cv)
    match (List.range b.size).find? fun i => b[i]! == c with
    | some i => pure (goInt i)
    | none => pure (goInt (-1))) w = _
  change Sem.run P (do
    let b ← Extern.Bytes.bytesOf (.string ⟨(Lib.bytesOf xs).toArray⟩)
    let c ← Extern.Bytes.asByte (.int .u8 cv)
    match (List.range b.size).find? fun i => b[i]! == c with
    | some i => pure (goInt i)
    | none => pure (goInt (-1))) w = _ at hs
  simp only [Extern.Bytes.bytesOf, Sem.run_bind, Sem.run_pure, hl, Result.andThen] at hs ⊢
  exact hs
/-- Where the first zero stands. -/
def zeroAt : List Int → Option Nat
  | [] => none
  | b :: r => if b = 0 then some 0 else (zeroAt r).map (· + 1)
theorem indexByte_zero : ∀ (l : List Int), Bytes l → Lib.indexByte (Lib.bytesOf l) 0 = match zeroAt l with | none => -1 | some i => (i : Int)
  | [], _ => rfl
  | b :: r, hb => by
    have ih := indexByte_zero r (fun x hx => hb x (by simp [hx]))
    have hb0 := hb b (by simp)
    show Lib.indexByte (UInt8.ofNat b.toNat :: Lib.bytesOf r) 0 = _
    rw [Lib.indexByte, zeroAt]
    have hz : (UInt8.ofNat b.toNat == 0) = decide (b = 0) := by
      have : (UInt8.ofNat b.toNat = 0) ↔ b = 0 := by
        rw [← UInt8.toNat_inj, UInt8.toNat_ofNat']
        simp
        omega
      by_cases h : b = 0
      · simp [h]
      · rw [decide_eq_false h]
        exact beq_eq_false_iff_ne.2 (fun e => h (this.1 e))
    rw [hz]
    by_cases h : b = 0
    · simp [h]
    · rw [decide_eq_false h, if_neg h, ih]
      cases zeroAt r with
      | none => rfl
      | some i => simp
theorem zeroAt_lt : ∀ {l : List Int} {i : Nat}, zeroAt l = some i → i < l.length
  | [], _, h => by simp [zeroAt] at h
  | b :: r, i, h => by
    rw [zeroAt] at h
    split at h
    · simp at h; subst h; simp
    · cases hr : zeroAt r with
      | none => rw [hr] at h; simp at h
      | some j => rw [hr] at h; have := zeroAt_lt hr; simp at h; simp; omega
theorem index_calls (A : Option Addr) (cap : Nat) (l : List Int) (w : World) (hb : Bytes l) (HR : Kd.C u8s w A l.length l) :
    Calls Tryd.prog 57 #[.slice A l.length cap, .int .u8 0] w fun e w' => e = .returned (.int .i64 (match zeroAt l with | none => -1 | some i => (i : Int))) ∧ w' = w := by
  rw [← indexByte_zero l hb]
  have hrun : (Extern.BytealgIndexByte.indexByte #[.slice A l.length cap, .int .u8 0]).run Tryd.prog w = .ok (.int .i64 (Lib.indexByte (Lib.bytesOf l) 0)) w := by
    cases A with
    | none =>
      have h0 : l = [] := by
        cases l with
        | nil => rfl
        | cons b r => obtain ⟨ad, e, _⟩ := HR.2.2 (by simp); cases e
      subst h0
      exact Lib.run_indexByteNil w _ _ _
    | some a =>
      have hc : ∀ i, i < l.length → w.cell? (a.add i) = some (.int .u8 (l.getD i 0)) := fun i hi => by
        obtain ⟨ad, e1, hx⟩ := Kd.at_int HR (i : Int) (by omega) (by omega)
        cases e1
        rw [Int.toNat_natCast, rd_nat l i hi] at hx
        rw [hx, List.getD_eq_getElem?_getD, List.getElem?_eq_getElem hi]
        rfl
      exact run_indexByte_any w a l.length cap l 0 rfl hc
  clear HR
  go_enter Tryd.func57, Tryd.ntmps57
  go_wp2
  rw [run_callFunc_extern Tryd.func69 (by kernel_rfl) (by kernel_rfl) (by kernel_rfl) (e := Extern.BytealgIndexByte.indexByte) (by kernel_rfl), hrun]
  simp only [Result.andThen]
  rw [Oper.upon_value]
  go_wp2
  go_ret
  exact ⟨rfl, rfl⟩

theorem set_swap (w : World) (g i j : Nat) (h : i ≠ j) (x y : Value) : (w.setCell ⟨g, i, none⟩ x).setCell ⟨g, j, none⟩ y = (w.setCell ⟨g, j, none⟩ y).setCell ⟨g, i, none⟩ x := by
  unfold World.setCell
  congr 1
  apply Array.ext_getElem?
  intro k
  simp only [Array.getElem?_modify]
  by_cases hk : g = k
  · subst hk
    simp only [if_true, Option.map_map]
    congr 1
    funext o
    cases o <;> simp [Array.setIfInBounds_comm _ _ h]
  · simp [hk]
/-- What string leaves. -/
def TPost (w : World) (g : Nat) (nm : ByteArray) (off : Int) (l : List Int) : Option Nat → Ending → World → Prop
  | none, e, w' => e = .returned (.string (ByteArray.mk #[])) ∧ Erred w g nm off w'
  | some i, e, w' => e = .returned (.string (strOfNums (l.take i))) ∧ After w g off l (i + 1) w'
set_option maxRecDepth 10000 in
theorem string_calls (g : Nat) (A : Option Addr) (cap : Nat) (l : List Int) (off : Int) (nm : ByteArray) (w : World) (hl : l.length < 2147483648) (hb : Bytes l)
    (q3 : w.cell? ⟨g, 3, none⟩ = some (.string nm)) (q6 : w.cell? ⟨g, 6, none⟩ = some .nilIface) (f6 : w.frozen? ⟨g, 6, none⟩ = false)
    (q5 : w.cell? ⟨g, 5, none⟩ = some (.slice A l.length cap)) (q4 : w.cell? ⟨g, 4, none⟩ = some (.int .u32 off)) (f5 : w.frozen? ⟨g, 5, none⟩ = false) (f4 : w.frozen? ⟨g, 4, none⟩ = false)
    (HR : Kd.C u8s w A l.length l) (hcap : l.length ≤ cap) :
    Calls Tryd.prog 43 #[.pointer (some ⟨g, 0, none⟩)] w fun e w' => TPost w g nm off l (zeroAt l) e w' := by
  have HV := Aside0.mk (index_calls A cap l w hb HR)
  have HL0 := Aside0.mk hl
  have HB0 := Aside0.mk hb
  have HR0 := Aside0.mk HR
  have HCAP := Aside0.mk hcap
  have n0 : g < w.heap.size := World.block_lt_of_cell? w _ q5
  have HE := Aside0.mk (error_calls g _ nm (ByteArray.mk #[117, 110, 100, 101, 114, 102, 108, 111, 119]) off w q3 q4 q5 q6 f5 f6)
  clear HR hl hcap hb
  go_enter Tryd.func43, Tryd.ntmps43
  go_wp2_with fail
  refine HV.out.mono ?_
  rintro e w1 ⟨rfl, rfl⟩
  cases hu : zeroAt l with
  | none =>
    have HU := Aside0.mk hu
    clear hu
    go_wp2_with fail
    refine HE.out.mono ?_
    rintro e w2 ⟨rfl, he⟩
    have HER := Aside0.mk he
    clear he
    go_wp2_with fail
    go_ret
    rw [HU.out]
    exact ⟨rfl, HER.out⟩
  | some i =>
    have HU := Aside0.mk hu
    have hi : i < l.length := zeroAt_lt hu
    have hlt : (l.take i).length = i := by rw [List.length_take]; omega
    have hconv : Sem.run Tryd.prog (convert 23 9 (.slice A i cap)) w1 = .ok (.string (strOfNums (l.take i))) w1 := by
      have h := Kd.C_take (m := i) HR0.out (by omega)
      rw [hlt] at h
      exact Kd.C_string Tryd.underlying23 Tryd.underlying5 Tryd.underlying9 h
    have hd : decide ((i : Int) < 0) = false := by simp
    have hd0 : (0 ≤ (i : Int)) = True := eq_true (by omega)
    have hcap : i ≤ cap := by have := HCAP.out; omega
    have hcap1 : i + 1 ≤ cap := by have := HCAP.out; omega
    have hi1 : i + 1 ≤ l.length := by omega
    have HS := Aside0.mk (after_mk (g := g) (off := off) (n := i + 1) HR0.out HCAP.out hi)
    have p4 : IntKind.i64.wrap ((i : Int) + 1) = ((i + 1 : Nat) : Int) := by
      have := HL0.out
      simp [IntKind.wrap, IntKind.signed, IntKind.bits]; omega
    clear hu HV HE
    go_wp2_with fail
    all_goals (go_ret; rw [HU.out]; refine ⟨rfl, ?_⟩; rw [set_swap _ _ _ _ (by decide)]; have h1_ := HS.out; simpa [*, Addr.add] using h1_)
end Go.Proofs.YtdepfipebogdcaaDoor.Buf

/- The contracts of the reader of bytes (package dwarf, type buf), proved by hand: numbers of a fixed size. -/
namespace Go.Proofs.YtdepfipebogdcaaDoor.Buf
set_option maxRecDepth 100000
open Go.RowKit Go.Proofs.YtdepfipebogdcaaDoorW.PrintWords Go.Proofs.YtdepfipebogdcaaDoorW.PrintLast Go.Proofs.YtdepfipebogdcaaDoorW.PrintMore Go.Proofs.YtdepfipebogdcaaDoor.Leb
/-- The bytes of a row, one by one. -/
theorem at_nat {A : Option Addr} {n : Nat} {l : List Int} {w : World} (HR : Kd.C u8s w A n l) (i : Nat) (h : i < l.length) : ∃ ad, A = some ad ∧ w.cell? (ad.add i) = some (.int .u8 l[i]) := by
  have hn := HR.1
  obtain ⟨ad, e, hx⟩ := Kd.at_int HR (i : Int) (by omega) (by omega)
  rw [Int.toNat_natCast, rd_nat l i h] at hx
  exact ⟨ad, e, hx⟩
theorem or_u16 (x y : Int) (hx : 0 ≤ x ∧ x < 256) (hy : 0 ≤ y ∧ y < 256) : Go.bits .or .u16 (IntKind.u16.wrap (y * 256)) x = x + 256 * y := by
  obtain ⟨a, rfl⟩ := Int.eq_ofNat_of_zero_le hx.1
  obtain ⟨b, rfl⟩ := Int.eq_ofNat_of_zero_le hy.1
  have e : IntKind.u16.wrap ((b : Int) * 256) = ((2 ^ 8 * b : Nat) : Int) := by simp [IntKind.wrap, IntKind.signed, IntKind.bits]; omega
  rw [e, u16_or_nat _ _ (by omega) (by omega), ← Nat.two_pow_add_eq_or_of_lt (show a < 2 ^ 8 by omega)]
  omega
theorem or_u32 (x y : Int) (hx : 0 ≤ x ∧ x < 65536) (hy : 0 ≤ y ∧ y < 65536) : Go.bits .or .u32 (IntKind.u32.wrap (y * 65536)) x = x + 65536 * y := by
  obtain ⟨a, rfl⟩ := Int.eq_ofNat_of_zero_le hx.1
  obtain ⟨b, rfl⟩ := Int.eq_ofNat_of_zero_le hy.1
  have e : IntKind.u32.wrap ((b : Int) * 65536) = ((2 ^ 16 * b : Nat) : Int) := by simp [IntKind.wrap, IntKind.signed, IntKind.bits]; omega
  rw [e, u32_or_nat _ _ (by omega) (by omega), ← Nat.two_pow_add_eq_or_of_lt (show a < 2 ^ 16 by omega)]
  omega
theorem or_u64 (x y : Int) (hx : 0 ≤ x ∧ x < 4294967296) (hy : 0 ≤ y ∧ y < 4294967296) : Go.bits .or .u64 (IntKind.u64.wrap (y * 4294967296)) x = x + 4294967296 * y := by
  obtain ⟨a, rfl⟩ := Int.eq_ofNat_of_zero_le hx.1
  obtain ⟨b, rfl⟩ := Int.eq_ofNat_of_zero_le hy.1
  have e : IntKind.u64.wrap ((b : Int) * 4294967296) = ((2 ^ 32 * b : Nat) : Int) := by simp [IntKind.wrap, IntKind.signed, IntKind.bits]; omega
  rw [e, u64_or_nat _ _ (by omega) (by omega), ← Nat.two_pow_add_eq_or_of_lt (show a < 2 ^ 32 by omega)]
  omega
theorem Uint16_calls (big : Bool) (ad : Addr) (cap N : Nat) (b0 b1 : Int) (w : World) (h0 : 0 ≤ b0 ∧ b0 < 256) (h1 : 0 ≤ b1 ∧ b1 < 256) (hN : 2 ≤ N) (hx0 : w.cell? ad = some (.int .u8 b0)) (hx1 : w.cell? ⟨ad.block, ad.off + 1, none⟩ = some (.int .u8 b1)) :
    Calls Tryd.prog 54 #[.agg #[.bool big], .slice (some ad) N cap] w fun e w' => e = .returned (.int .u16 (two big b0 b1)) ∧ ∃ n, w' = (w.alloc (.cells #[.bool big] 72)).drewN n := by
  have k0 : ((0 : Int) < (N : Int)) = True := eq_true (by omega)
  have k2 : (0 < N) = True := eq_true (by omega)
  have k3 : (1 < N) = True := eq_true (by omega)
  have k1 : ((1 : Int) < (N : Int)) = True := eq_true (by omega)
  clear hN
  obtain ⟨H1, hH1, e10⟩ : ∃ H, IntKind.u16.wrap (b1 * 256) = H ∧ Go.bits .or .u16 H b0 = two false b0 b1 := ⟨_, rfl, or_u16 b0 b1 h0 h1⟩
  obtain ⟨H0, hH0, e01⟩ : ∃ H, IntKind.u16.wrap (b0 * 256) = H ∧ Go.bits .or .u16 H b1 = two true b0 b1 := ⟨_, rfl, or_u16 b1 b0 h1 h0⟩
  have w0 : IntKind.u16.wrap b0 = b0 := by simp [IntKind.wrap, IntKind.signed, IntKind.bits]; omega
  have w1 : IntKind.u16.wrap b1 = b1 := by simp [IntKind.wrap, IntKind.signed, IntKind.bits]; omega
  have n0 : ad.block < w.heap.size := World.block_lt_of_cell? w _ hx0
  cases big
  · go_enter Tryd.func54, Tryd.ntmps54
    go_wp2
    go_quiet (fail)
    all_goals go_wp2
    go_ret
    exact ⟨rfl, _, rfl⟩
  · go_enter Tryd.func54, Tryd.ntmps54
    go_wp2
    go_quiet (fail)
    all_goals go_wp2
    go_ret
    exact ⟨rfl, _, rfl⟩
set_option maxHeartbeats 1000000 in
theorem Uint32_calls (big : Bool) (ad : Addr) (cap N : Nat) (b0 b1 b2 b3 : Int) (w : World) (h0 : 0 ≤ b0 ∧ b0 < 256) (h1 : 0 ≤ b1 ∧ b1 < 256) (h2 : 0 ≤ b2 ∧ b2 < 256) (h3 : 0 ≤ b3 ∧ b3 < 256) (hN : 4 ≤ N) (hcap : N ≤ cap)
    (hx0 : w.cell? ad = some (.int .u8 b0)) (hx1 : w.cell? ⟨ad.block, ad.off + 1, none⟩ = some (.int .u8 b1)) (hx2 : w.cell? ⟨ad.block, ad.off + 2, none⟩ = some (.int .u8 b2)) (hx3 : w.cell? ⟨ad.block, ad.off + 3, none⟩ = some (.int .u8 b3)) :
    Calls Tryd.prog 56 #[.agg #[.bool big], .slice (some ad) N cap] w fun e w' => e = .returned (.int .u32 (four big b0 b1 b2 b3)) ∧ Below w.heap.size w w' := by
  have n0 : ad.block < w.heap.size := World.block_lt_of_cell? w _ hx0
  obtain ⟨T1, hT1⟩ : ∃ T, two big b0 b1 = T := ⟨_, rfl⟩
  obtain ⟨T2, hT2⟩ : ∃ T, two big b2 b3 = T := ⟨_, rfl⟩
  have r1 := two_lt big h0 h1
  have r2 := two_lt big h2 h3
  rw [hT1] at r1
  rw [hT2] at r2
  obtain ⟨W0, hW0⟩ : ∃ W, w.alloc (.cells #[.bool big] 72) = W := ⟨_, rfl⟩
  have HB0 : Below w.heap.size w W0 := hW0 ▸ (Below.refl _ _).alloc (Nat.le_refl _) _
  have C1 : Aside0 (∀ W, Below W0.heap.size W0 W → Calls Tryd.prog 54 #[.agg #[.bool big], .slice (some ad) N cap] W fun e w' => e = .returned (.int .u16 T1) ∧ Below W0.heap.size W0 w') := ⟨fun W hB => by
    have hBw : Below w.heap.size w W := HB0.trans (hB.mono HB0.size)
    have h := Uint16_calls big ad cap N b0 b1 W h0 h1 (by omega) ((hBw.cell (p := ad) n0).trans hx0) ((hBw.cell (p := ⟨ad.block, ad.off + 1, none⟩) n0).trans hx1)
    rw [hT1] at h
    refine h.mono ?_
    rintro e w' ⟨rfl, n, rfl⟩
    have b1_ := hB.alloc hB.size (.cells #[.bool big] 72)
    exact ⟨rfl, b1_.os, b1_.tape, b1_.output, b1_.size, b1_.block⟩⟩
  have C2 : Aside0 (∀ W, Below W0.heap.size W0 W → Calls Tryd.prog 54 #[.agg #[.bool big], .slice (some ⟨ad.block, ad.off + 2, none⟩) (N - 2) (cap - 2)] W fun e w' => e = .returned (.int .u16 T2) ∧ Below W0.heap.size W0 w') := ⟨fun W hB => by
    have hBw : Below w.heap.size w W := HB0.trans (hB.mono HB0.size)
    have h := Uint16_calls big ⟨ad.block, ad.off + 2, none⟩ (cap - 2) (N - 2) b2 b3 W h2 h3 (by omega) ((hBw.cell (p := ⟨ad.block, ad.off + 2, none⟩) n0).trans hx2) ((hBw.cell (p := ⟨ad.block, ad.off + 3, none⟩) n0).trans hx3)
    rw [hT2] at h
    refine h.mono ?_
    rintro e w' ⟨rfl, n, rfl⟩
    have b1_ := hB.alloc hB.size (.cells #[.bool big] 72)
    exact ⟨rfl, b1_.os, b1_.tape, b1_.output, b1_.size, b1_.block⟩⟩
  have k2 : (2 ≤ N) = True := eq_true (by omega)
  have k3 : (cap = 2) = False := eq_false (by omega)
  have k4 : (2 ≤ cap) = True := eq_true (by omega)
  have k5 : ((2 : Int) ≤ (N : Int)) = True := eq_true (by omega)
  have k6 : ((2 : Int) ≤ (cap : Int)) = True := eq_true (by omega)
  have w1 : IntKind.u32.wrap T1 = T1 := by simp [IntKind.wrap, IntKind.signed, IntKind.bits]; omega
  have w2 : IntKind.u32.wrap T2 = T2 := by simp [IntKind.wrap, IntKind.signed, IntKind.bits]; omega
  obtain ⟨H1, hH1, e12⟩ : ∃ H, IntKind.u32.wrap (T1 * 65536) = H ∧ Go.bits .or .u32 H T2 = T2 + 65536 * T1 := ⟨_, rfl, or_u32 T2 T1 r2 r1⟩
  obtain ⟨H2, hH2, e21⟩ : ∃ H, IntKind.u32.wrap (T2 * 65536) = H ∧ Go.bits .or .u32 H T1 = T1 + 65536 * T2 := ⟨_, rfl, or_u32 T1 T2 r1 r2⟩
  have hbx : Aside0 (W0.heap[w.heap.size]? = some (.cells #[.bool big] 72 (0, 0))) := ⟨hW0 ▸ heap_alloc_new w _⟩
  have HB1 := Aside0.mk (Below.refl W0.heap.size W0)
  have HB0' := Aside0.mk HB0
  have HV : Aside0 (four big b0 b1 b2 b3 = if big then T2 + 65536 * T1 else T1 + 65536 * T2) := ⟨by unfold four; rw [hT1, hT2]⟩
  have HW0 := Aside0.mk hW0
  clear h0 h1 h2 h3 hx0 hx1 hx2 hx3 hN hcap r1 r2 HB0 hT1 hT2
  have q0 : W0.cell? ⟨w.heap.size, 0, none⟩ = some (.bool big) := (blk_cell hbx.out 0).trans rfl
  have n1 : w.heap.size < W0.heap.size := blk_lt hbx.out
  cases big
  · go_enter Tryd.func56, Tryd.ntmps56
    go_wp2
    go_region_with ((first | (with_reducible refine (C1.out _ ?aB).mono ?_) | (with_reducible refine (C2.out _ ?aB).mono ?_)); (case aB => exact (by repeat (first | exact HB1.out | apply pw_below_drewN))); rintro e w2 ⟨rfl, hb⟩; clear HB1; have HB1 := Aside0.mk hb; clear hb; have q0 : w2.cell? ⟨w.heap.size, 0, none⟩ = some (.bool false) := (HB1.out.cell (p := ⟨w.heap.size, 0, none⟩) (blk_lt hbx.out)).trans ((blk_cell hbx.out 0).trans rfl); have n1 : w.heap.size < w2.heap.size := Nat.lt_of_lt_of_le (blk_lt hbx.out) HB1.out.size)
    all_goals go_wp2
    all_goals (go_ret; exact ⟨by first | (rw [HV.out]; rfl) | simp [HV.out, *], (by repeat (first | exact HB0'.out.trans (HB1.out.mono HB0'.out.size) | apply pw_below_drewN))⟩)
  · go_enter Tryd.func56, Tryd.ntmps56
    go_wp2
    go_region_with ((first | (with_reducible refine (C1.out _ ?aB).mono ?_) | (with_reducible refine (C2.out _ ?aB).mono ?_)); (case aB => exact (by repeat (first | exact HB1.out | apply pw_below_drewN))); rintro e w2 ⟨rfl, hb⟩; clear HB1; have HB1 := Aside0.mk hb; clear hb; have q0 : w2.cell? ⟨w.heap.size, 0, none⟩ = some (.bool true) := (HB1.out.cell (p := ⟨w.heap.size, 0, none⟩) (blk_lt hbx.out)).trans ((blk_cell hbx.out 0).trans rfl); have n1 : w.heap.size < w2.heap.size := Nat.lt_of_lt_of_le (blk_lt hbx.out) HB1.out.size)
    all_goals go_wp2
    all_goals (go_ret; exact ⟨by first | (rw [HV.out]; rfl) | simp [HV.out, *], (by repeat (first | exact HB0'.out.trans (HB1.out.mono HB0'.out.size) | apply pw_below_drewN))⟩)

set_option maxHeartbeats 1000000 in
theorem Uint64_calls (big : Bool) (ad : Addr) (cap N : Nat) (b0 b1 b2 b3 b4 b5 b6 b7 : Int) (w : World) (h0 : 0 ≤ b0 ∧ b0 < 256) (h1 : 0 ≤ b1 ∧ b1 < 256) (h2 : 0 ≤ b2 ∧ b2 < 256) (h3 : 0 ≤ b3 ∧ b3 < 256) (h4 : 0 ≤ b4 ∧ b4 < 256) (h5 : 0 ≤ b5 ∧ b5 < 256) (h6 : 0 ≤ b6 ∧ b6 < 256) (h7 : 0 ≤ b7 ∧ b7 < 256) (hN : 8 ≤ N) (hcap : N ≤ cap)
    (hx0 : w.cell? ad = some (.int .u8 b0)) (hx1 : w.cell? ⟨ad.block, ad.off + 1, none⟩ = some (.int .u8 b1)) (hx2 : w.cell? ⟨ad.block, ad.off + 2, none⟩ = some (.int .u8 b2)) (hx3 : w.cell? ⟨ad.block, ad.off + 3, none⟩ = some (.int .u8 b3)) (hx4 : w.cell? ⟨ad.block, ad.off + 4, none⟩ = some (.int .u8 b4)) (hx5 : w.cell? ⟨ad.block, ad.off + 5, none⟩ = some (.int .u8 b5)) (hx6 : w.cell? ⟨ad.block, ad.off + 6, none⟩ = some (.int .u8 b6)) (hx7 : w.cell? ⟨ad.block, ad.off + 7, none⟩ = some (.int .u8 b7)) :
    Calls Tryd.prog 55 #[.agg #[.bool big], .slice (some ad) N cap] w fun e w' => e = .returned (.int .u64 (eight big b0 b1 b2 b3 b4 b5 b6 b7)) ∧ Below w.heap.size w w' := by
  have n0 : ad.block < w.heap.size := World.block_lt_of_cell? w _ hx0
  obtain ⟨T1, hT1⟩ : ∃ T, four big b0 b1 b2 b3 = T := ⟨_, rfl⟩
  obtain ⟨T2, hT2⟩ : ∃ T, four big b4 b5 b6 b7 = T := ⟨_, rfl⟩
  have r1 := four_lt big h0 h1 h2 h3
  have r2 := four_lt big h4 h5 h6 h7
  rw [hT1] at r1
  rw [hT2] at r2
  obtain ⟨W0, hW0⟩ : ∃ W, w.alloc (.cells #[.bool big] 72) = W := ⟨_, rfl⟩
  have HB0 : Below w.heap.size w W0 := hW0 ▸ (Below.refl _ _).alloc (Nat.le_refl _) _
  have C1 : Aside0 (∀ W, Below W0.heap.size W0 W → Calls Tryd.prog 56 #[.agg #[.bool big], .slice (some ad) N cap] W fun e w' => e = .returned (.int .u32 T1) ∧ Below W0.heap.size W0 w') := ⟨fun W hB => by
    have hBw : Below w.heap.size w W := HB0.trans (hB.mono HB0.size)
    have h := Uint32_calls big ad cap N b0 b1 b2 b3 W h0 h1 h2 h3 (by omega) hcap ((hBw.cell (p := ad) n0).trans hx0) ((hBw.cell (p := ⟨ad.block, ad.off + 1, none⟩) n0).trans hx1) ((hBw.cell (p := ⟨ad.block, ad.off + 2, none⟩) n0).trans hx2) ((hBw.cell (p := ⟨ad.block, ad.off + 3, none⟩) n0).trans hx3)
    rw [hT1] at h
    refine h.mono ?_
    rintro e w' ⟨rfl, hb⟩
    exact ⟨rfl, hB.trans (hb.mono hB.size)⟩⟩
  have C2 : Aside0 (∀ W, Below W0.heap.size W0 W → Calls Tryd.prog 56 #[.agg #[.bool big], .slice (some ⟨ad.block, ad.off + 4, none⟩) (N - 4) (cap - 4)] W fun e w' => e = .returned (.int .u32 T2) ∧ Below W0.heap.size W0 w') := ⟨fun W hB => by
    have hBw : Below w.heap.size w W := HB0.trans (hB.mono HB0.size)
    have h := Uint32_calls big ⟨ad.block, ad.off + 4, none⟩ (cap - 4) (N - 4) b4 b5 b6 b7 W h4 h5 h6 h7 (by omega) (by omega) ((hBw.cell (p := ⟨ad.block, ad.off + 4, none⟩) n0).trans hx4) ((hBw.cell (p := ⟨ad.block, ad.off + 5, none⟩) n0).trans hx5) ((hBw.cell (p := ⟨ad.block, ad.off + 6, none⟩) n0).trans hx6) ((hBw.cell (p := ⟨ad.block, ad.off + 7, none⟩) n0).trans hx7)
    rw [hT2] at h
    refine h.mono ?_
    rintro e w' ⟨rfl, hb⟩
    exact ⟨rfl, hB.trans (hb.mono hB.size)⟩⟩
  have k2 : (4 ≤ N) = True := eq_true (by omega)
  have k3 : (cap = 4) = False := eq_false (by omega)
  have k4 : (4 ≤ cap) = True := eq_true (by omega)
  have k5 : ((4 : Int) ≤ (N : Int)) = True := eq_true (by omega)
  have k6 : ((4 : Int) ≤ (cap : Int)) = True := eq_true (by omega)
  have w1 : IntKind.u64.wrap T1 = T1 := by simp [IntKind.wrap, IntKind.signed, IntKind.bits]; omega
  have w2 : IntKind.u64.wrap T2 = T2 := by simp [IntKind.wrap, IntKind.signed, IntKind.bits]; omega
  obtain ⟨H1, hH1, e12⟩ : ∃ H, IntKind.u64.wrap (T1 * 4294967296) = H ∧ Go.bits .or .u64 H T2 = T2 + 4294967296 * T1 := ⟨_, rfl, or_u64 T2 T1 r2 r1⟩
  obtain ⟨H2, hH2, e21⟩ : ∃ H, IntKind.u64.wrap (T2 * 4294967296) = H ∧ Go.bits .or .u64 H T1 = T1 + 4294967296 * T2 := ⟨_, rfl, or_u64 T1 T2 r1 r2⟩
  have hbx : Aside0 (W0.heap[w.heap.size]? = some (.cells #[.bool big] 72 (0, 0))) := ⟨hW0 ▸ heap_alloc_new w _⟩
  have HB1 := Aside0.mk (Below.refl W0.heap.size W0)
  have HB0' := Aside0.mk HB0
  have HV : Aside0 (eight big b0 b1 b2 b3 b4 b5 b6 b7 = if big then T2 + 4294967296 * T1 else T1 + 4294967296 * T2) := ⟨by unfold eight; rw [hT1, hT2]⟩
  have HW0 := Aside0.mk hW0
  clear h0 hx0 h1 hx1 h2 hx2 h3 hx3 h4 hx4 h5 hx5 h6 hx6 h7 hx7 hN hcap r1 r2 HB0 hT1 hT2
  have q0 : W0.cell? ⟨w.heap.size, 0, none⟩ = some (.bool big) := (blk_cell hbx.out 0).trans rfl
  have n1 : w.heap.size < W0.heap.size := blk_lt hbx.out
  cases big
  · go_enter Tryd.func55, Tryd.ntmps55
    go_wp2
    go_region_with ((first | (with_reducible refine (C1.out _ ?aB).mono ?_) | (with_reducible refine (C2.out _ ?aB).mono ?_)); (case aB => exact (by repeat (first | exact HB1.out | apply pw_below_drewN))); rintro e w2 ⟨rfl, hb⟩; clear HB1; have HB1 := Aside0.mk hb; clear hb; have q0 : w2.cell? ⟨w.heap.size, 0, none⟩ = some (.bool false) := (HB1.out.cell (p := ⟨w.heap.size, 0, none⟩) (blk_lt hbx.out)).trans ((blk_cell hbx.out 0).trans rfl); have n1 : w.heap.size < w2.heap.size := Nat.lt_of_lt_of_le (blk_lt hbx.out) HB1.out.size)
    all_goals go_wp2
    all_goals (go_ret; exact ⟨by first | (rw [HV.out]; rfl) | simp [HV.out, *], (by repeat (first | exact HB0'.out.trans (HB1.out.mono HB0'.out.size) | apply pw_below_drewN))⟩)
  · go_enter Tryd.func55, Tryd.ntmps55
    go_wp2
    go_region_with ((first | (with_reducible refine (C1.out _ ?aB).mono ?_) | (with_reducible refine (C2.out _ ?aB).mono ?_)); (case aB => exact (by repeat (first | exact HB1.out | apply pw_below_drewN))); rintro e w2 ⟨rfl, hb⟩; clear HB1; have HB1 := Aside0.mk hb; clear hb; have q0 : w2.cell? ⟨w.heap.size, 0, none⟩ = some (.bool true) := (HB1.out.cell (p := ⟨w.heap.size, 0, none⟩) (blk_lt hbx.out)).trans ((blk_cell hbx.out 0).trans rfl); have n1 : w.heap.size < w2.heap.size := Nat.lt_of_lt_of_le (blk_lt hbx.out) HB1.out.size)
    all_goals go_wp2
    all_goals (go_ret; exact ⟨by first | (rw [HV.out]; rfl) | simp [HV.out, *], (by repeat (first | exact HB0'.out.trans (HB1.out.mono HB0'.out.size) | apply pw_below_drewN))⟩)
end Go.Proofs.YtdepfipebogdcaaDoor.Buf

/- The reader of bytes (package dwarf, type buf) as a state: what each of its functions makes of it. -/
namespace Go.Proofs.YtdepfipebogdcaaDoor.Buf
set_option maxRecDepth 100000
open Go.RowKit Go.Proofs.YtdepfipebogdcaaDoorW.PrintWords Go.Proofs.YtdepfipebogdcaaDoorW.PrintLast Go.Proofs.YtdepfipebogdcaaDoorW.PrintMore Go.Proofs.YtdepfipebogdcaaDoor.Leb

theorem set_other (w : World) (g i j : Nat) (h : i ≠ j) (x : Value) : (w.setCell ⟨g, i, none⟩ x).cell? ⟨g, j, none⟩ = w.cell? ⟨g, j, none⟩ := by
  apply World.cell?_setCell_other
  intro e
  injection e with e1 e2 e3
  exact h e2
/-- A cell that is no byte is none of a row of bytes. -/
theorem C_set {w : World} {A : Option Addr} {n : Nat} {l : List Int} {p : Addr} {v : Value} (HR : Kd.C u8s w A n l) (q : w.cell? p = some v) (hv : ∀ x, v ≠ .int .u8 x) (u : Value) : Kd.C u8s (w.setCell p u) A n l := by
  have h := Kd.reads_of_C (enc := Value.int .u8) (d := (0 : Int)) (h1 := fun _ => rfl) HR
  refine Kd.C_of_reads (enc := Value.int .u8) (d := (0 : Int)) (h1 := fun _ => rfl) ⟨h.1, h.2.1, fun hp => ?_⟩
  obtain ⟨ad, e, hc⟩ := h.2.2 hp
  refine ⟨ad, e, fun j hj => ?_⟩
  rw [World.cell?_setCell_other]
  · exact hc j hj
  · intro he
    have h1 := hc j hj
    rw [← he, q] at h1
    injection h1 with h1
    exact hv _ h1
theorem after_row {w w' : World} {g n : Nat} {off : Int} {l : List Int} {A : Option Addr} {m : Nat} {v4i : Int} {a5 : Option Addr} {n5 c5 : Nat} {xs : List Int} (h : After w g off l n w') (HR : Kd.C u8s w A m xs)
    (q4 : w.cell? ⟨g, 4, none⟩ = some (.int .u32 v4i)) (q5 : w.cell? ⟨g, 5, none⟩ = some (.slice a5 n5 c5)) : Kd.C u8s w' A m xs := by
  obtain ⟨A', cap', _, _, rfl⟩ := h
  have h1 := C_set HR q4 (fun x => by simp) (.int .u32 ((off + n) % 4294967296))
  refine C_set (v := .slice a5 n5 c5) h1 ?_ (fun x => by simp) _
  rw [set_other _ _ _ _ (by decide)]
  exact q5
theorem eql_nil (W : World) (A : Option Addr) (n c : Nat) : Sem.run Tryd.prog (binOp .eql 23 (.slice A n c) (.slice none 0 0)) W = .ok (.bool A.isNone) W := by
  exact Lib.run_eql_slice_nil W 23 5 A n c 0 0 Tryd.underlying23

/-- What a reader of bytes has that never turns. -/
structure BC where
  d : Value
  big : Bool
  f : Value
  nm : ByteArray
/-- A reader's state: where it stands, what is ahead, whether no error was told. -/
structure S where
  off : Int
  l : List Int
  ok : Bool
/-- Its cells. -/
abbrev cellsOf (c : BC) (s : S) (A : Option Addr) (cap : Nat) (ev : Value) : Array Value := #[c.d, .bool c.big, c.f, .string c.nm, .int .u32 s.off, .slice A s.l.length cap, ev]
/-- No error, or one. -/
def ErrIs (ok : Bool) (v : Value) : Prop := if ok then v = .nilIface else ∃ t x, v = .iface t x
/-- A reader lies at the head of block g. -/
structure Has (w : World) (g t : Nat) (rest : Array Value) (c : BC) (s : S) : Prop where
  at_ : ∃ A cap ev, w.heap[g]? = some (.cells (cellsOf c s A cap ev ++ rest) t (0, 0)) ∧ Kd.C u8s w A s.l.length s.l ∧ s.l.length ≤ cap ∧ ErrIs s.ok ev
  len : s.l.length < 2147483648
  byte : Bytes s.l
  nil_ : s.ok = false → s.l = []
/-- All blocks but one are as they were. -/
structure Kp (w w' : World) (g : Nat) : Prop where
  os : w'.os = w.os
  tape : w'.tape = w.tape
  output : w'.output = w.output
  size : w.heap.size ≤ w'.heap.size
  block : ∀ k, k < w.heap.size → k ≠ g → w'.heap[k]? = w.heap[k]?
theorem Kp.refl (w : World) (g : Nat) : Kp w w g := ⟨rfl, rfl, rfl, Nat.le_refl _, fun _ _ _ => rfl⟩
theorem Kp.trans {w1 w2 w3 : World} {g : Nat} (h : Kp w1 w2 g) (k : Kp w2 w3 g) : Kp w1 w3 g := ⟨k.os.trans h.os, k.tape.trans h.tape, k.output.trans h.output, Nat.le_trans h.size k.size, fun i hi hg => (k.block i (Nat.lt_of_lt_of_le hi h.size) hg).trans (h.block i hi hg)⟩
theorem Kp.below {w w' : World} {g base : Nat} (h : Kp w w' g) (hg : base ≤ g) (hb : base ≤ w.heap.size) : Below base w w' := ⟨h.os, h.tape, h.output, h.size, fun k hk => h.block k (by omega) (by omega)⟩
theorem Kp.of_below {w w' : World} {g : Nat} (h : Below w.heap.size w w') : Kp w w' g := ⟨h.os, h.tape, h.output, h.size, fun k hk _ => h.block k hk⟩
theorem Kp.set {w w' : World} {g : Nat} (h : Kp w w' g) (j : Nat) (v : Value) : Kp w (w'.setCell ⟨g, j, none⟩ v) g := ⟨h.os, h.tape, h.output, by simpa using h.size, fun k hk hg => (Below.heap_setCell w' ⟨g, j, none⟩ v k hg).trans (h.block k hk hg)⟩
theorem Kp.drewN {w w' : World} {g : Nat} (h : Kp w w' g) (n : Nat) : Kp w (w'.drewN n) g := ⟨h.os, h.tape, h.output, h.size, h.block⟩
/-- n bytes further on. -/
def S.adv (s : S) (n : Nat) : S := { s with off := (s.off + n) % 4294967296, l := s.l.drop n }
/-- An error. -/
def S.fail (s : S) : S := { s with l := [], ok := false }
theorem cells_at (c : BC) (s : S) (A : Option Addr) (cap : Nat) (ev : Value) (rest : Array Value) (i : Nat) (h : i < 7) : (cellsOf c s A cap ev ++ rest)[i]? = (cellsOf c s A cap ev)[i]? := Array.getElem?_append_left (xs := cellsOf c s A cap ev) (ys := rest) h
theorem has_after {w w' : World} {g t n : Nat} {rest : Array Value} {c : BC} {s : S} (hH : Has w g t rest c s) (h : After w g s.off s.l n w') : Has w' g t rest c (s.adv n) ∧ Kp w w' g := by
  obtain ⟨A0, cap0, ev, hg, hC0, _, he⟩ := hH.at_
  obtain ⟨A, cap, hC, hc, rfl⟩ := h
  have h2 := blk_set (blk_set hg 4 (.int .u32 ((s.off + n) % 4294967296))) 5 (.slice A (s.l.drop n).length cap)
  have q4 : w.cell? ⟨g, 4, none⟩ = some (.int .u32 s.off) := (blk_cell hg 4).trans (cells_at c s A0 cap0 ev rest 4 (by decide))
  have q5 : w.cell? ⟨g, 5, none⟩ = some (.slice A0 s.l.length cap0) := (blk_cell hg 5).trans (cells_at c s A0 cap0 ev rest 5 (by decide))
  refine ⟨⟨⟨A, cap, ev, ?_, ?_, hc, he⟩, ?_, hH.byte.drop n, ?_⟩, ((Kp.refl w g).set 4 _).set 5 _⟩
  · rw [h2]
    simp [cellsOf, S.adv]
  · refine C_set (v := .slice A0 s.l.length cap0) (C_set hC q4 (fun x => by simp) _) ?_ (fun x => by simp) _
    rw [set_other _ _ _ _ (by decide)]
    exact q5
  · have := hH.len
    simp only [S.adv, List.length_drop]
    omega
  · intro h
    simp [S.adv, hH.nil_ h]
theorem has_erred {w w' : World} {g t : Nat} {rest : Array Value} {c : BC} {s : S} (hH : Has w g t rest c s) (h : Erred w g c.nm s.off w') : Has w' g t rest c s.fail ∧ Kp w w' g := by
  obtain ⟨A0, cap0, ev, hg, hC0, _, he⟩ := hH.at_
  obtain ⟨m, n, rfl⟩ := h
  have h2 := blk_set (blk_set hg 5 (.slice none 0 0)) 6 (errv c.nm m s.off)
  refine ⟨⟨⟨none, 0, errv c.nm m s.off, ?_, Kd.C_nil _ _, by simp [S.fail], 97, _, rfl⟩, by simp [S.fail], by intro b hb; simp [S.fail] at hb, fun _ => rfl⟩, (((Kp.refl w g).set 5 _).set 6 _).drewN n⟩
  show ((w.setCell ⟨g, 5, none⟩ (.slice none 0 0)).setCell ⟨g, 6, none⟩ (errv c.nm m s.off)).heap[g]? = _
  rw [h2]
  simp [cellsOf, S.fail]
/-- The facts on the cells, as the walks want them. -/
theorem Has.parts {w : World} {g t : Nat} {rest : Array Value} {c : BC} {s : S} (hH : Has w g t rest c s) : ∃ A cap ev, w.cell? ⟨g, 1, none⟩ = some (.bool c.big) ∧ w.cell? ⟨g, 3, none⟩ = some (.string c.nm) ∧ w.cell? ⟨g, 4, none⟩ = some (.int .u32 s.off) ∧ w.cell? ⟨g, 5, none⟩ = some (.slice A s.l.length cap) ∧ w.cell? ⟨g, 6, none⟩ = some ev ∧ ErrIs s.ok ev ∧ (∀ j, w.frozen? ⟨g, j, none⟩ = false) ∧ Kd.C u8s w A s.l.length s.l ∧ s.l.length ≤ cap := by
  obtain ⟨A0, cap0, ev, hg, hC0, hc, he⟩ := hH.at_
  exact ⟨A0, cap0, ev, (blk_cell hg 1).trans (cells_at c s A0 cap0 ev rest 1 (by decide)), (blk_cell hg 3).trans (cells_at c s A0 cap0 ev rest 3 (by decide)), (blk_cell hg 4).trans (cells_at c s A0 cap0 ev rest 4 (by decide)), (blk_cell hg 5).trans (cells_at c s A0 cap0 ev rest 5 (by decide)), (blk_cell hg 6).trans (cells_at c s A0 cap0 ev rest 6 (by decide)), he, fun j => blk_frozen hg j, hC0, hc⟩
/-- error. -/
theorem fail_calls {w : World} {g t : Nat} {rest : Array Value} {c : BC} {s : S} (hH : Has w g t rest c s) (m : ByteArray) :
    Calls Tryd.prog 52 #[.pointer (some ⟨g, 0, none⟩), .string m] w fun e w' => e = .returned (.tuple #[]) ∧ Has w' g t rest c s.fail ∧ Kp w w' g := by
  obtain ⟨A, cap, ev, q1, q3, q4, q5, q6, he, fz, hC, hc⟩ := hH.parts
  unfold ErrIs at he
  by_cases hok : s.ok = true
  · rw [if_pos hok] at he
    subst he
    refine (error_calls g _ c.nm m s.off w q3 q4 q5 q6 (fz 5) (fz 6)).mono ?_
    rintro e w' ⟨rfl, h⟩
    exact ⟨rfl, has_erred hH h⟩
  · rw [if_neg hok] at he
    obtain ⟨u, x, rfl⟩ := he
    refine (error_again g u x m w q6).mono ?_
    rintro e w' ⟨rfl, rfl⟩
    have hl : s.fail = s := by
      have h := hH.nil_ (by simpa using hok)
      cases s
      simp at h hok
      simp [S.fail, h, hok]
    rw [hl]
    exact ⟨rfl, hH, Kp.refl _ _⟩
/-- uint, as a state. -/
def S.uint (s : S) : Int × S := match uread s.l with
  | none => (0, s.fail)
  | some (v, n) => (((v % 18446744073709551616 : Nat) : Int), s.adv n)
theorem uint_has {w : World} {g t : Nat} {rest : Array Value} {c : BC} {s : S} (hH : Has w g t rest c s) :
    Calls Tryd.prog 48 #[.pointer (some ⟨g, 0, none⟩)] w fun e w' => e = .returned (.int .u64 s.uint.1) ∧ Has w' g t rest c s.uint.2 ∧ Kp w w' g := by
  obtain ⟨A, cap, ev, q1, q3, q4, q5, q6, he, fz, hC, hc⟩ := hH.parts
  have HV := Aside0.mk (varint_calls g A cap s.l s.off w hH.len hH.byte q5 q4 (fz 5) (fz 4) hC hc)
  have n0 : g < w.heap.size := World.block_lt_of_cell? w _ q5
  have HE := Aside0.mk (fail_calls hH (ByteArray.mk #[117, 110, 100, 101, 114, 102, 108, 111, 119]))
  have HH := Aside0.mk hH
  clear q1 q3 q4 q5 q6 he fz hC hc hH
  go_enter Tryd.func48, Tryd.ntmps48
  go_wp2_with fail
  refine HV.out.mono ?_
  cases hu : uread s.l with
  | none =>
    have HU := Aside0.mk hu
    clear hu
    rintro e w1 ⟨rfl, rfl⟩
    go_wp2_with fail
    refine HE.out.mono ?_
    rintro e w2 ⟨rfl, he⟩
    have HER := Aside0.mk he
    clear he
    go_wp2_with fail
    go_ret
    have hs : s.uint = (0, s.fail) := by unfold S.uint; rw [HU.out]
    rw [hs]
    exact ⟨rfl, HER.out⟩
  | some p =>
    obtain ⟨v, n⟩ := p
    have hn : 0 < n := (uread_count hu).1
    have c0 : decide (((7 * n : Nat) : Int) = 0) = false := by simp; omega
    obtain ⟨X, hX⟩ : ∃ X : Int, ((7 * n : Nat) : Int) = X := ⟨_, rfl⟩
    have c1 : decide (X = 0) = false := by rw [← hX]; exact c0
    have c2 : (X == 0) = false := by rw [← hX]; simp; omega
    have HU := Aside0.mk hu
    clear hu c0 HV
    rintro e w1 ⟨rfl, he⟩
    have HER := Aside0.mk (has_after HH.out he)
    rw [hX]
    clear he hX
    go_wp2_with fail
    go_ret
    have hs : s.uint = (((v % 18446744073709551616 : Nat) : Int), s.adv n) := by unfold S.uint; rw [HU.out]
    rw [hs]
    exact ⟨rfl, HER.out⟩
/-- bytes, as a state: whether there were enough, and the state. -/
def S.bytes (s : S) (n : Nat) : S := if n ≤ s.l.length then s.adv n else s.fail
/-- The row that bytes tells. -/
def Row (w : World) (v : Value) (l : List Int) : Prop := ∃ A cap, v = .slice A l.length cap ∧ Kd.C u8s w A l.length l ∧ l.length ≤ cap
/-- What bytes hands back. -/
def BRes (w' : World) (s : S) (n : Nat) (v : Value) : Prop := if n ≤ s.l.length then Row w' v (s.l.take n) ∧ (0 < n → ∃ ad c, v = .slice (some ad) n c) else v = .slice none 0 0
set_option maxRecDepth 10000 in
theorem bytes_has {w : World} {g t : Nat} {rest : Array Value} {c : BC} {s : S} (hH : Has w g t rest c s) (n : Nat) (hn : n < 9223372036854775808) :
    Calls Tryd.prog 53 #[.pointer (some ⟨g, 0, none⟩), .int .i64 (n : Int)] w fun e w' => (∃ v, e = .returned v ∧ BRes w' s n v) ∧ Has w' g t rest c (s.bytes n) ∧ Kp w w' g := by
  obtain ⟨A, cap, ev, q1, q3, q4, q5, q6, he, fz, hC, hcp⟩ := hH.parts
  have HN := Aside0.mk hn
  have HR0 := Aside0.mk hC
  have HCAP := Aside0.mk hcp
  have Q := Aside0.mk (And.intro q4 q5)
  have n0 : g < w.heap.size := World.block_lt_of_cell? w _ q5
  have HE := Aside0.mk (fail_calls hH (ByteArray.mk #[117, 110, 100, 101, 114, 102, 108, 111, 119]))
  have HH := Aside0.mk hH
  have d0 : decide ((n : Int) < 0) = false := by simp
  have d1 : (0 ≤ (n : Int)) = True := eq_true (by omega)
  have f4 := fz 4
  have f5 := fz 5
  clear q1 q3 q6 he fz hC hcp hH hn
  by_cases hc : n ≤ s.l.length
  · have c1 : decide ((s.l.length : Int) < (n : Int)) = false := by simp; omega
    have hcap : n ≤ cap := by have := HCAP.out; omega
    have HS := Aside0.mk (after_mk (g := g) (off := s.off) (n := n) HR0.out HCAP.out hc)
    have HC := Aside0.mk hc
    have HD : Aside0 (∀ (cp : Nat) (w' : World), cp = cap → After w g s.off s.l n w' → (∃ v, Ending.returned (.slice A n cp) = .returned v ∧ BRes w' s n v) ∧ Has w' g t rest c (s.bytes n) ∧ Kp w w' g) := ⟨fun cp w' hcp ha => by
      subst hcp
      have hlen : (s.l.take n).length = n := by rw [List.length_take]; omega
      refine ⟨⟨_, rfl, ?_⟩, ?_⟩
      · unfold BRes
        rw [if_pos hc]
        refine ⟨⟨A, cp, by rw [hlen], ?_, by rw [hlen]; omega⟩, fun h0 => ?_⟩
        · exact Kd.C_take (after_row ha HR0.out Q.out.1 Q.out.2) hc
        · cases A with
          | none => obtain ⟨ad, e, _⟩ := HR0.out.2.2 (by omega); cases e
          | some ad => exact ⟨ad, cp, rfl⟩
      · unfold S.bytes
        rw [if_pos hc]
        exact has_after HH.out ha⟩
    clear HE
    go_enter Tryd.func53, Tryd.ntmps53
    go_wp2_with fail
    all_goals (go_ret; refine HD.out _ _ (by omega) ?_; rw [set_swap _ _ _ _ (by decide)]; have h1_ := HS.out; simpa [*, Addr.add] using h1_)
  · have c1 : decide ((s.l.length : Int) < (n : Int)) = true := by simp; omega
    have c2 : (s.l.length < n) = True := eq_true (by omega)
    have HC := Aside0.mk hc
    clear hc
    go_enter Tryd.func53, Tryd.ntmps53
    go_wp2_with fail
    refine HE.out.mono ?_
    rintro e w2 ⟨rfl, he⟩
    have HER := Aside0.mk he
    clear he
    go_wp2_with fail
    go_ret
    refine ⟨⟨_, rfl, by unfold BRes; rw [if_neg HC.out]; rfl⟩, ?_⟩
    unfold S.bytes
    rw [if_neg HC.out]
    exact HER.out

theorem Has.below {w w' : World} {g t : Nat} {rest : Array Value} {c : BC} {s : S} (h : Has w g t rest c s) (hb : Below w.heap.size w w') : Has w' g t rest c s := by
  obtain ⟨A, cap, ev, hg, hC, hc, he⟩ := h.at_
  exact ⟨⟨A, cap, ev, (hb.block g (blk_lt hg)).trans hg, Kd.C_below hC hb, hc, he⟩, h.len, h.byte, h.nil_⟩
/-- uint32, as a state. -/
def S.u32 (big : Bool) (s : S) : Int × S := match s.l with
  | b0 :: b1 :: b2 :: b3 :: _ => (four big b0 b1 b2 b3, s.adv 4)
  | _ => (0, s.fail)
/-- uint64, as a state. -/
def S.u64 (big : Bool) (s : S) : Int × S := match s.l with
  | b0 :: b1 :: b2 :: b3 :: b4 :: b5 :: b6 :: b7 :: _ => (eight big b0 b1 b2 b3 b4 b5 b6 b7, s.adv 8)
  | _ => (0, s.fail)
set_option maxRecDepth 10000 in
theorem uint32_has {w : World} {g t : Nat} {rest : Array Value} {c : BC} {s : S} (hH : Has w g t rest c s) :
    Calls Tryd.prog 42 #[.pointer (some ⟨g, 0, none⟩)] w fun e w' => e = .returned (.int .u32 (s.u32 c.big).1) ∧ Has w' g t rest c (s.u32 c.big).2 ∧ Kp w w' g := by
  have HV := Aside0.mk (bytes_has hH 4 (by decide))
  have HB := Aside0.mk hH.byte
  have en := fun W => eql_nil W
  by_cases hc : 4 ≤ s.l.length
  · obtain ⟨b0, b1, b2, b3, r, hl⟩ : ∃ b0 b1 b2 b3 r, s.l = b0 :: b1 :: b2 :: b3 :: r := by
      rcases hs : s.l with _ | ⟨b0, _ | ⟨b1, _ | ⟨b2, _ | ⟨b3, r⟩⟩⟩⟩ <;> first | (rw [hs] at hc; simp at hc; done) | exact ⟨_, _, _, _, _, rfl⟩
    have HR : Aside0 (s.u32 c.big = (four c.big b0 b1 b2 b3, s.adv 4) ∧ s.bytes 4 = s.adv 4) := ⟨by unfold S.u32; rw [hl], by unfold S.bytes; rw [if_pos hc]⟩
    have HC := Aside0.mk hc
    have HL := Aside0.mk hl
    clear hH hc hl
    go_enter Tryd.func42, Tryd.ntmps42
    go_wp2_with fail
    refine HV.out.mono ?_
    rintro e w1 ⟨⟨v, rfl, hb⟩, hh, hk⟩
    unfold BRes at hb
    rw [if_pos HC.out] at hb
    obtain ⟨hrow, hsm⟩ := hb
    obtain ⟨ad, cap, rfl⟩ := hsm (by decide)
    obtain ⟨A', cap', hv, hC, hcp⟩ := hrow
    injection hv with e1 e2 e3
    subst e1
    subst e3
    have hlen : (s.l.take 4).length = 4 := by rw [List.length_take]; have := HC.out; omega
    rw [HR.out.2] at hh
    rw [hlen] at hcp
    obtain ⟨A2, cap2, ev2, q1, _, _, q5, _, _, fz, _, _⟩ := hh.parts
    have n1 : g < w1.heap.size := World.block_lt_of_cell? w1 _ q1
    have HH := Aside0.mk hh
    have HK := Aside0.mk hk
    have HCP := Aside0.mk hcp
    have HC1 := Aside0.mk hC
    clear hh hk hC hcp q5 fz e2
    go_wp2_with fail
    have hb0 := HB.out b0 (by rw [HL.out]; simp)
    have hb1 := HB.out b1 (by rw [HL.out]; simp)
    have hb2 := HB.out b2 (by rw [HL.out]; simp)
    have hb3 := HB.out b3 (by rw [HL.out]; simp)
    have at_ : ∀ i (h : i < 4), w1.cell? (ad.add i) = some (.int .u8 ((s.l.take 4)[i]'(by rw [hlen]; exact h))) := fun i h => by
      obtain ⟨ad', e2, hx⟩ := at_nat HC1.out i (by rw [hlen]; exact h)
      cases e2
      exact hx
    simp only [HL.out, List.take_succ_cons, List.take_zero] at at_
    refine (Uint32_calls c.big ad cap 4 b0 b1 b2 b3 w1 hb0 hb1 hb2 hb3 (by decide) HCP.out (at_ 0 (by decide)) (at_ 1 (by decide)) (at_ 2 (by decide)) (at_ 3 (by decide))).mono ?_
    rintro e w2 ⟨rfl, hb⟩
    have HB2 := Aside0.mk hb
    clear hb
    go_wp2_with fail
    go_ret
    rw [HR.out.1]
    exact ⟨rfl, HH.out.below HB2.out, HK.out.trans (Kp.of_below HB2.out)⟩
  · have HR : Aside0 (s.u32 c.big = (0, s.fail) ∧ s.bytes 4 = s.fail) := ⟨by
      unfold S.u32
      rcases hs : s.l with _ | ⟨b0, _ | ⟨b1, _ | ⟨b2, _ | ⟨b3, r⟩⟩⟩⟩ <;> first | rfl | (rw [hs] at hc; simp at hc), by unfold S.bytes; rw [if_neg hc]⟩
    have HC := Aside0.mk hc
    clear hH hc
    go_enter Tryd.func42, Tryd.ntmps42
    go_wp2_with fail
    refine HV.out.mono ?_
    rintro e w1 ⟨⟨v, rfl, hb⟩, hh, hk⟩
    unfold BRes at hb
    rw [if_neg HC.out] at hb
    subst hb
    rw [HR.out.2] at hh
    have HH := Aside0.mk hh
    have HK := Aside0.mk hk
    clear hh hk
    go_wp2_with fail
    go_ret
    rw [HR.out.1]
    exact ⟨rfl, HH.out, HK.out⟩
set_option maxRecDepth 10000 in
theorem uint64_has {w : World} {g t : Nat} {rest : Array Value} {c : BC} {s : S} (hH : Has w g t rest c s) :
    Calls Tryd.prog 41 #[.pointer (some ⟨g, 0, none⟩)] w fun e w' => e = .returned (.int .u64 (s.u64 c.big).1) ∧ Has w' g t rest c (s.u64 c.big).2 ∧ Kp w w' g := by
  have HV := Aside0.mk (bytes_has hH 8 (by decide))
  have HB := Aside0.mk hH.byte
  have en := fun W => eql_nil W
  by_cases hc : 8 ≤ s.l.length
  · obtain ⟨b0, b1, b2, b3, b4, b5, b6, b7, r, hl⟩ : ∃ b0 b1 b2 b3 b4 b5 b6 b7 r, s.l = b0 :: b1 :: b2 :: b3 :: b4 :: b5 :: b6 :: b7 :: r := by
      rcases hs : s.l with _ | ⟨b0, _ | ⟨b1, _ | ⟨b2, _ | ⟨b3, _ | ⟨b4, _ | ⟨b5, _ | ⟨b6, _ | ⟨b7, r⟩⟩⟩⟩⟩⟩⟩⟩ <;> first | (rw [hs] at hc; simp at hc; done) | exact ⟨_, _, _, _, _, _, _, _, _, rfl⟩
    have HR : Aside0 (s.u64 c.big = (eight c.big b0 b1 b2 b3 b4 b5 b6 b7, s.adv 8) ∧ s.bytes 8 = s.adv 8) := ⟨by unfold S.u64; rw [hl], by unfold S.bytes; rw [if_pos hc]⟩
    have HC := Aside0.mk hc
    have HL := Aside0.mk hl
    clear hH hc hl
    go_enter Tryd.func41, Tryd.ntmps41
    go_wp2_with fail
    refine HV.out.mono ?_
    rintro e w1 ⟨⟨v, rfl, hb⟩, hh, hk⟩
    unfold BRes at hb
    rw [if_pos HC.out] at hb
    obtain ⟨hrow, hsm⟩ := hb
    obtain ⟨ad, cap, rfl⟩ := hsm (by decide)
    obtain ⟨A', cap', hv, hC, hcp⟩ := hrow
    injection hv with e1 e2 e3
    subst e1
    subst e3
    have hlen : (s.l.take 8).length = 8 := by rw [List.length_take]; have := HC.out; omega
    rw [HR.out.2] at hh
    rw [hlen] at hcp
    obtain ⟨A2, cap2, ev2, q1, _, _, q5, _, _, fz, _, _⟩ := hh.parts
    have n1 : g < w1.heap.size := World.block_lt_of_cell? w1 _ q1
    have HH := Aside0.mk hh
    have HK := Aside0.mk hk
    have HCP := Aside0.mk hcp
    have HC1 := Aside0.mk hC
    clear hh hk hC hcp q5 fz e2
    go_wp2_with fail
    have hb0 := HB.out b0 (by rw [HL.out]; simp)
    have hb1 := HB.out b1 (by rw [HL.out]; simp)
    have hb2 := HB.out b2 (by rw [HL.out]; simp)
    have hb3 := HB.out b3 (by rw [HL.out]; simp)
    have hb4 := HB.out b4 (by rw [HL.out]; simp)
    have hb5 := HB.out b5 (by rw [HL.out]; simp)
    have hb6 := HB.out b6 (by rw [HL.out]; simp)
    have hb7 := HB.out b7 (by rw [HL.out]; simp)
    have at_ : ∀ i (h : i < 8), w1.cell? (ad.add i) = some (.int .u8 ((s.l.take 8)[i]'(by rw [hlen]; exact h))) := fun i h => by
      obtain ⟨ad', e2, hx⟩ := at_nat HC1.out i (by rw [hlen]; exact h)
      cases e2
      exact hx
    simp only [HL.out, List.take_succ_cons, List.take_zero] at at_
    refine (Uint64_calls c.big ad cap 8 b0 b1 b2 b3 b4 b5 b6 b7 w1 hb0 hb1 hb2 hb3 hb4 hb5 hb6 hb7 (by decide) HCP.out (at_ 0 (by decide)) (at_ 1 (by decide)) (at_ 2 (by decide)) (at_ 3 (by decide)) (at_ 4 (by decide)) (at_ 5 (by decide)) (at_ 6 (by decide)) (at_ 7 (by decide))).mono ?_
    rintro e w2 ⟨rfl, hb⟩
    have HB2 := Aside0.mk hb
    clear hb
    go_wp2_with fail
    go_ret
    rw [HR.out.1]
    exact ⟨rfl, HH.out.below HB2.out, HK.out.trans (Kp.of_below HB2.out)⟩
  · have HR : Aside0 (s.u64 c.big = (0, s.fail) ∧ s.bytes 8 = s.fail) := ⟨by
      unfold S.u64
      rcases hs : s.l with _ | ⟨b0, _ | ⟨b1, _ | ⟨b2, _ | ⟨b3, _ | ⟨b4, _ | ⟨b5, _ | ⟨b6, _ | ⟨b7, r⟩⟩⟩⟩⟩⟩⟩⟩ <;> first | rfl | (rw [hs] at hc; simp at hc), by unfold S.bytes; rw [if_neg hc]⟩
    have HC := Aside0.mk hc
    clear hH hc
    go_enter Tryd.func41, Tryd.ntmps41
    go_wp2_with fail
    refine HV.out.mono ?_
    rintro e w1 ⟨⟨v, rfl, hb⟩, hh, hk⟩
    unfold BRes at hb
    rw [if_neg HC.out] at hb
    subst hb
    rw [HR.out.2] at hh
    have HH := Aside0.mk hh
    have HK := Aside0.mk hk
    clear hh hk
    go_wp2_with fail
    go_ret
    rw [HR.out.1]
    exact ⟨rfl, HH.out, HK.out⟩
/-- unitLength, as a state. -/
def S.unit (big : Bool) (s : S) : Int × Bool × S :=
  if (s.u32 big).1 = 4294967295 then ((((s.u32 big).2.u64 big).1) % 4294967296, true, ((s.u32 big).2.u64 big).2)
  else if (s.u32 big).1 ≥ 4294967280 then ((s.u32 big).1, false, (s.u32 big).2.fail)
  else ((s.u32 big).1, false, (s.u32 big).2)
theorem unit_has {w : World} {g t : Nat} {rest : Array Value} {c : BC} {s : S} (hH : Has w g t rest c s) :
    Calls Tryd.prog 38 #[.pointer (some ⟨g, 0, none⟩)] w fun e w' => e = .returned (.tuple #[.int .u32 (s.unit c.big).1, .bool (s.unit c.big).2.1]) ∧ Has w' g t rest c (s.unit c.big).2.2 ∧ Kp w w' g := by
  have HV := Aside0.mk (uint32_has hH)
  have n0 : g < w.heap.size := by obtain ⟨A, cap, ev, hg, _⟩ := hH.at_; exact blk_lt hg
  clear hH
  obtain ⟨v, hv⟩ : ∃ v, (s.u32 c.big).1 = v := ⟨_, rfl⟩
  by_cases h1 : v = 4294967295
  · subst h1
    have HR : Aside0 (s.unit c.big = ((((s.u32 c.big).2.u64 c.big).1) % 4294967296, true, ((s.u32 c.big).2.u64 c.big).2)) := ⟨by unfold S.unit; rw [if_pos hv]⟩
    go_enter Tryd.func38, Tryd.ntmps38
    go_wp2_with fail
    refine HV.out.mono ?_
    rw [hv]
    clear hv
    rintro e w1 ⟨rfl, hh, hk⟩
    have HK := Aside0.mk hk
    have HW := Aside0.mk (uint64_has hh)
    clear hh hk
    go_wp2_with fail
    refine HW.out.mono ?_
    obtain ⟨u, hu⟩ : ∃ u, ((s.u32 c.big).2.u64 c.big).1 = u := ⟨_, rfl⟩
    rw [hu]
    have HU := Aside0.mk hu
    clear hu
    rintro e w2 ⟨rfl, hh, hk⟩
    have HK2 := Aside0.mk hk
    have HH := Aside0.mk hh
    clear hh hk
    have hw : IntKind.u32.wrap u = u % 4294967296 := by simp [IntKind.wrap, IntKind.signed, IntKind.bits]
    go_wp2_with fail
    go_ret2
    rw [HR.out, HU.out]
    exact ⟨rfl, HH.out, HK.out.trans HK2.out⟩
  · have e1 : (v == 4294967295) = false := beq_eq_false_iff_ne.2 h1
    have e2 : decide (v = 4294967295) = false := decide_eq_false h1
    by_cases h2 : v ≥ 4294967280
    · have HR : Aside0 (s.unit c.big = (v, false, (s.u32 c.big).2.fail)) := ⟨by unfold S.unit; rw [hv, if_neg h1, if_pos h2]⟩
      have e3 : decide (4294967280 ≤ v) = true := decide_eq_true h2
      go_enter Tryd.func38, Tryd.ntmps38
      go_wp2_with fail
      refine HV.out.mono ?_
      rw [hv]
      clear hv
      rintro e w1 ⟨rfl, hh, hk⟩
      have HK := Aside0.mk hk
      have HW := Aside0.mk (fun m => fail_calls hh m)
      clear hh hk
      go_wp2_with fail
      refine (HW.out _).mono ?_
      rintro e w2 ⟨rfl, hh, hk⟩
      have HK2 := Aside0.mk hk
      have HH := Aside0.mk hh
      clear hh hk
      go_wp2_with fail
      go_ret2
      rw [HR.out]
      exact ⟨rfl, HH.out, HK.out.trans HK2.out⟩
    · have HR : Aside0 (s.unit c.big = (v, false, (s.u32 c.big).2)) := ⟨by unfold S.unit; rw [hv, if_neg h1, if_neg h2]⟩
      have e3 : decide (4294967280 ≤ v) = false := decide_eq_false h2
      go_enter Tryd.func38, Tryd.ntmps38
      go_wp2_with fail
      refine HV.out.mono ?_
      rw [hv]
      clear hv
      rintro e w1 ⟨rfl, hh, hk⟩
      have HK := Aside0.mk hk
      have HH := Aside0.mk hh
      clear hh hk
      go_wp2_with fail
      go_ret2
      rw [HR.out]
      exact ⟨rfl, HH.out, HK.out⟩
end Go.Proofs.YtdepfipebogdcaaDoor.Buf

/- The reader of bytes (package dwarf, type buf) as a state: one byte, two bytes, signed numbers, texts, what is passed over; where there is enough to read. -/
namespace Go.Proofs.YtdepfipebogdcaaDoor.Buf
set_option maxRecDepth 100000
open Go.RowKit Go.Proofs.YtdepfipebogdcaaDoorW.PrintWords Go.Proofs.YtdepfipebogdcaaDoorW.PrintLast Go.Proofs.YtdepfipebogdcaaDoorW.PrintMore Go.Proofs.YtdepfipebogdcaaDoor.Leb

theorem Has.lt {w : World} {g t : Nat} {rest : Array Value} {c : BC} {s : S} (h : Has w g t rest c s) : g < w.heap.size := by
  obtain ⟨A, cap, ev, hg, _⟩ := h.at_
  exact blk_lt hg

/-- uint8. -/
theorem uint8_has {w : World} {g t : Nat} {rest : Array Value} {c : BC} {s : S} (hH : Has w g t rest c s) {b : Int} {r : List Int} (hl : s.l = b :: r) :
    Calls Tryd.prog 40 #[.pointer (some ⟨g, 0, none⟩)] w fun e w' => e = .returned (.int .u8 b) ∧ Has w' g t rest c (s.adv 1) ∧ Kp w w' g := by
  obtain ⟨A, cap, ev, q1, q3, q4, q5, q6, he, fz, hC, hcp⟩ := hH.parts
  obtain ⟨ad, rfl, hx⟩ := at_nat hC 0 (by rw [hl]; simp)
  have hx0 : w.cell? ad = some (.int .u8 b) := by
    have : s.l[0]'(by rw [hl]; simp) = b := by simp [hl]
    rw [this] at hx
    exact hx
  have hn : s.l.length = r.length + 1 := by rw [hl]; simp
  have HS := Aside0.mk (after_mk (g := g) (off := s.off) (n := 1) hC hcp (by omega))
  have HH := Aside0.mk hH
  have n0 : g < w.heap.size := hH.lt
  have f4 := fz 4
  have f5 := fz 5
  rw [hn] at q5 hcp
  have c1 : decide (r.length + 1 < 1) = false := by simp
  have hcap1 : 1 ≤ cap := by omega
  have HN := Aside0.mk hn
  have HD : Aside0 (∀ w', After w g s.off s.l 1 w' → (Has w' g t rest c (s.adv 1) ∧ Kp w w' g)) := ⟨fun w' ha => has_after HH.out ha⟩
  clear q1 q3 q6 he fz hC hH hl hn hx HH
  go_enter Tryd.func40, Tryd.ntmps40
  go_wp2
  all_goals (go_ret; refine ⟨rfl, HD.out _ ?_⟩; rw [set_swap _ _ _ _ (by decide)]; have h1_ := HS.out; have h2_ := HN.out; simp only [h2_] at h1_; simpa [*, Addr.add] using h1_)

/-- int. -/
theorem int_has {w : World} {g t : Nat} {rest : Array Value} {c : BC} {s : S} (hH : Has w g t rest c s) (hok : s.ok = true) {v n : Nat} (hu : uread s.l = some (v, n)) :
    Calls Tryd.prog 68 #[.pointer (some ⟨g, 0, none⟩)] w fun e w' => e = .returned (.int .i64 (sval v n)) ∧ Has w' g t rest c (s.adv n) ∧ Kp w w' g := by
  obtain ⟨A, cap, ev, q1, q3, q4, q5, q6, he, fz, hC, hcp⟩ := hH.parts
  unfold ErrIs at he
  rw [if_pos hok] at he
  subst he
  refine (int_calls g A cap s.l s.off c.nm w hH.len hH.byte q3 q6 (fz 6) q5 q4 (fz 5) (fz 4) hC hcp).mono ?_
  rw [hu]
  rintro e w' ⟨rfl, ha⟩
  exact ⟨rfl, has_after hH ha⟩

/-- string. -/
theorem string_has {w : World} {g t : Nat} {rest : Array Value} {c : BC} {s : S} (hH : Has w g t rest c s) (hok : s.ok = true) {i : Nat} (hu : zeroAt s.l = some i) :
    Calls Tryd.prog 43 #[.pointer (some ⟨g, 0, none⟩)] w fun e w' => e = .returned (.string (strOfNums (s.l.take i))) ∧ Has w' g t rest c (s.adv (i + 1)) ∧ Kp w w' g := by
  obtain ⟨A, cap, ev, q1, q3, q4, q5, q6, he, fz, hC, hcp⟩ := hH.parts
  unfold ErrIs at he
  rw [if_pos hok] at he
  subst he
  refine (string_calls g A cap s.l s.off c.nm w hH.len hH.byte q3 q6 (fz 6) q5 q4 (fz 5) (fz 4) hC hcp).mono ?_
  rw [hu]
  rintro e w' ⟨rfl, ha⟩
  exact ⟨rfl, has_after hH ha⟩

/-- skip. -/
theorem skip_has {w : World} {g t : Nat} {rest : Array Value} {c : BC} {s : S} (hH : Has w g t rest c s) (n : Nat) (hn : n ≤ s.l.length) :
    Calls Tryd.prog 64 #[.pointer (some ⟨g, 0, none⟩), .int .i64 (n : Int)] w fun e w' => e = .returned (.tuple #[]) ∧ Has w' g t rest c (s.adv n) ∧ Kp w w' g := by
  have HV := Aside0.mk (bytes_has hH n (by have := hH.len; omega))
  have HS : Aside0 (s.bytes n = s.adv n) := ⟨if_pos hn⟩
  clear hH hn
  go_enter Tryd.func64, Tryd.ntmps64
  go_wp2_with fail
  refine HV.out.mono ?_
  rintro e w1 ⟨⟨v, rfl, _⟩, hh, hk⟩
  rw [HS.out] at hh
  have HH := Aside0.mk (And.intro hh hk)
  clear hh hk
  go_wp2_with fail
  go_end0
  exact ⟨rfl, HH.out⟩

/-- uint, where there is one. -/
theorem uint_ok {w : World} {g t : Nat} {rest : Array Value} {c : BC} {s : S} (hH : Has w g t rest c s) {v n : Nat} (hu : uread s.l = some (v, n)) (hv : v < 18446744073709551616) :
    Calls Tryd.prog 48 #[.pointer (some ⟨g, 0, none⟩)] w fun e w' => e = .returned (.int .u64 (v : Int)) ∧ Has w' g t rest c (s.adv n) ∧ Kp w w' g := by
  refine (uint_has hH).mono ?_
  have e1 : s.uint = ((v : Int), s.adv n) := by
    unfold S.uint
    rw [hu]
    simp only
    rw [Nat.mod_eq_of_lt hv]
  rw [e1]
  exact fun e w' h => h
/-- uint, whatever it is. -/
theorem uint_any {w : World} {g t : Nat} {rest : Array Value} {c : BC} {s : S} (hH : Has w g t rest c s) {v n : Nat} (hu : uread s.l = some (v, n)) :
    Calls Tryd.prog 48 #[.pointer (some ⟨g, 0, none⟩)] w fun e w' => (∃ x, e = .returned (.int .u64 x)) ∧ Has w' g t rest c (s.adv n) ∧ Kp w w' g := by
  refine (uint_has hH).mono ?_
  have e1 : s.uint = (((v % 18446744073709551616 : Nat) : Int), s.adv n) := by
    unfold S.uint
    rw [hu]
  rw [e1]
  exact fun e w' h => ⟨⟨_, h.1⟩, h.2⟩
/-- uint32, uint64, where there are enough bytes. -/
theorem uint32_ok {w : World} {g t : Nat} {rest : Array Value} {c : BC} {s : S} (hH : Has w g t rest c s) {b0 b1 b2 b3 : Int} {r : List Int} (hl : s.l = b0 :: b1 :: b2 :: b3 :: r) :
    Calls Tryd.prog 42 #[.pointer (some ⟨g, 0, none⟩)] w fun e w' => e = .returned (.int .u32 (four c.big b0 b1 b2 b3)) ∧ Has w' g t rest c (s.adv 4) ∧ Kp w w' g := by
  have h := uint32_has hH
  have e1 : s.u32 c.big = (four c.big b0 b1 b2 b3, s.adv 4) := by unfold S.u32; rw [hl]
  rwa [e1] at h
theorem uint64_ok {w : World} {g t : Nat} {rest : Array Value} {c : BC} {s : S} (hH : Has w g t rest c s) {b0 b1 b2 b3 b4 b5 b6 b7 : Int} {r : List Int} (hl : s.l = b0 :: b1 :: b2 :: b3 :: b4 :: b5 :: b6 :: b7 :: r) :
    Calls Tryd.prog 41 #[.pointer (some ⟨g, 0, none⟩)] w fun e w' => e = .returned (.int .u64 (eight c.big b0 b1 b2 b3 b4 b5 b6 b7)) ∧ Has w' g t rest c (s.adv 8) ∧ Kp w w' g := by
  have h := uint64_has hH
  have e1 : s.u64 c.big = (eight c.big b0 b1 b2 b3 b4 b5 b6 b7, s.adv 8) := by unfold S.u64; rw [hl]
  rwa [e1] at h

/-- uint16. -/
theorem uint16_ok {w : World} {g t : Nat} {rest : Array Value} {c : BC} {s : S} (hH : Has w g t rest c s) {b0 b1 : Int} {r : List Int} (hl : s.l = b0 :: b1 :: r) :
    Calls Tryd.prog 39 #[.pointer (some ⟨g, 0, none⟩)] w fun e w' => e = .returned (.int .u16 (two c.big b0 b1)) ∧ Has w' g t rest c (s.adv 2) ∧ Kp w w' g := by
  have HV := Aside0.mk (bytes_has hH 2 (by decide))
  have HB := Aside0.mk hH.byte
  have en := fun W => eql_nil W
  have hc : 2 ≤ s.l.length := by rw [hl]; simp
  have HR : Aside0 (s.bytes 2 = s.adv 2) := ⟨if_pos hc⟩
  have HC := Aside0.mk hc
  have HL := Aside0.mk hl
  clear hH hc hl
  go_enter Tryd.func39, Tryd.ntmps39
  go_wp2_with fail
  refine HV.out.mono ?_
  rintro e w1 ⟨⟨v, rfl, hb⟩, hh, hk⟩
  unfold BRes at hb
  rw [if_pos HC.out] at hb
  obtain ⟨hrow, hsm⟩ := hb
  obtain ⟨ad, cap, rfl⟩ := hsm (by decide)
  obtain ⟨A', cap', hv, hC, hcp⟩ := hrow
  injection hv with e1 e2 e3
  subst e1
  subst e3
  have hlen : (s.l.take 2).length = 2 := by rw [List.length_take]; have := HC.out; omega
  rw [HR.out] at hh
  rw [hlen] at hcp
  obtain ⟨A2, cap2, ev2, q1, _, _, q5, _, _, fz, _, _⟩ := hh.parts
  have n1 : g < w1.heap.size := World.block_lt_of_cell? w1 _ q1
  have HH := Aside0.mk hh
  have HK := Aside0.mk hk
  have HCP := Aside0.mk hcp
  have HC1 := Aside0.mk hC
  clear hh hk hC hcp q5 fz e2
  go_wp2_with fail
  have hb0 := HB.out b0 (by rw [HL.out]; simp)
  have hb1 := HB.out b1 (by rw [HL.out]; simp)
  have at_ : ∀ i (h : i < 2), w1.cell? (ad.add i) = some (.int .u8 ((s.l.take 2)[i]'(by rw [hlen]; exact h))) := fun i h => by
    obtain ⟨ad', e2, hx⟩ := at_nat HC1.out i (by rw [hlen]; exact h)
    cases e2
    exact hx
  simp only [HL.out, List.take_succ_cons, List.take_zero] at at_
  refine (Uint16_calls c.big ad cap 2 b0 b1 w1 hb0 hb1 (by decide) (at_ 0 (by decide)) (at_ 1 (by decide))).mono ?_
  rintro e w2 ⟨rfl, n, rfl⟩
  have HB2 : Aside0 (Below w1.heap.size w1 ((w1.alloc (.cells #[.bool c.big] 72)).drewN n)) := ⟨pw_below_drewN ((Below.refl _ _).alloc (Nat.le_refl _) _) n⟩
  go_wp2_with fail
  go_ret
  exact ⟨rfl, HH.out.below HB2.out, HK.out.trans (Kp.of_below HB2.out)⟩
end Go.Proofs.YtdepfipebogdcaaDoor.Buf

/- Plain: the reader of a line program, as functions on bytes; no Go in sight. -/
namespace Go.Proofs.YtdepfipebogdcaaDoor.Line
open Go Go.Proofs.YtdepfipebogdcaaDoor.Leb

/-- A source file. -/
structure Fl where
  nm : ByteArray
  mt : Int
  ln : Int
/-- A row's registers. -/
structure Row where
  ad : Int
  ix : Int
  fl : Option Fl
  li : Int
  co : Int
  st : Bool
  bb : Bool
  pe : Bool
  eb : Bool
  isa : Int
  di : Int
  es : Bool
/-- What a reader has that never turns behind the header. -/
structure K where
  sec : List Int
  eo : Nat
  po : Nat
  big : Bool
  asz : Int
  mi : Int
  mo : Int
  ds : Bool
  lb : Int
  lr : Int
  ob : Int
  ol : List Int
  dirs : List ByteArray
  n0 : Nat
/-- Its state: where it stands, the files that were ever known, how many are known, the registers. -/
structure St where
  p : Nat
  fs : List (Option Fl)
  n : Nat
  r : Row
  fi : Int

/-- The bytes ahead of a place. -/
def K.at (k : K) (p : Nat) : List Int := (k.sec.take k.eo).drop p
/-- The file of a number. -/
def fileAt (fs : List (Option Fl)) (n : Nat) (i : Int) : Option Fl := if i < (n : Int) then fs.getD i.toNat none else none
def St.file (s : St) : Option Fl := fileAt s.fs s.n s.fi
/-- updateFile. -/
def St.upd (s : St) : St := { s with r := { s.r with fl := s.file } }
/-- resetState. -/
def K.start (k : K) (s : St) : St := { s with fi := 1, r := { ad := 0, ix := 0, fl := fileAt s.fs s.n 1, li := 1, co := 0, st := k.ds, bb := false, pe := false, eb := false, isa := 0, di := 0, es := false } }
/-- Reset. -/
def K.reset (k : K) (s : St) : St := k.start { s with p := k.po, n := k.n0 }

/-- advancePC. -/
def K.adv (k : K) (r : Row) (v : Int) : Row := { r with ad := r.ad + k.mi * ((r.ix + v) / k.mo), ix := (r.ix + v) % k.mo }
/-- What may be advanced. -/
def fit (r : Row) (v : Int) : Bool := decide (0 ≤ r.ix) && decide (r.ix < 256) && decide (0 ≤ v) && decide (v ≤ 4294967296) && decide (0 ≤ r.ad) && decide (r.ad < 9223372036854775808)
/-- What a line may be. -/
def fitL (a b : Int) : Bool := decide (-1099511627776 ≤ a) && decide (a ≤ 1099511627776) && decide (-1099511627776 ≤ b) && decide (b ≤ 1099511627776)

/-- Where the first zero stands. -/
def zeroAt : List Int → Option Nat
  | [] => none
  | b :: r => if b = 0 then some 0 else (zeroAt r).map (· + 1)
/-- Whether letters alone stand there. -/
def letters (l : List UInt8) : Bool := !l.isEmpty && l.all fun c => decide (97 ≤ c) && decide (c ≤ 122)
/-- A slash and letters. -/
def homely (s : ByteArray) : Bool := match s.data.toList with
  | c :: r => c == 47 && letters r
  | _ => false
/-- A file's whole name: an absolute one, or letters behind a directory of a slash and letters. -/
def nameIn (dirs : List ByteArray) (nm : ByteArray) (d : Int) : Option ByteArray :=
  if nm.data.toList.head? = some 47 then some nm
  else if letters nm.data.toList ∧ 0 ≤ d ∧ d < dirs.length ∧ homely (dirs.getD d.toNat ByteArray.empty) then some (dirs.getD d.toNat ByteArray.empty ++ ⟨#[47]⟩ ++ nm)
  else none
/-- The bytes of a text. -/
def strOf (l : List Int) : ByteArray := ⟨(l.map fun x => UInt8.ofNat x.toNat).toArray⟩

/-- An unsigned number: what it is, how many bytes it has. -/
def unum (l : List Int) : Option (Nat × Nat) := (uread l).bind fun vn => if vn.1 < 9223372036854775808 then some vn else none
/-- A file of the list: none at its end; how many bytes it has. -/
def fileIn (dirs : List ByteArray) (l : List Int) : Option (Option Fl × Nat) :=
  (zeroAt l).bind fun i => if i = 0 then some (none, 1) else
    (unum (l.drop (i + 1))).bind fun d => (nameIn dirs (strOf (l.take i)) d.1).bind fun nm =>
      (unum (l.drop (i + 1 + d.2))).bind fun m => (unum (l.drop (i + 1 + d.2 + m.2))).bind fun n =>
        some (some ⟨nm, m.1, n.1⟩, i + 1 + d.2 + m.2 + n.2)
/-- A file is added, but for one that was known. -/
def St.add (s : St) (f : Fl) : St := if s.n < s.fs.length then { s with n := s.n + 1 } else { s with n := s.n + 1, fs := s.fs ++ [some f] }

/-- A row was told; p: where the reader stands then. -/
def emit (s : St) (p : Nat) : Option Row × St := (some s.r, { s with p := p, r := { s.r with bb := false, pe := false, eb := false, di := 0 } })
/-- So many numbers are passed over. -/
def K.skip (k : K) : Nat → Nat → Option Nat
  | 0, p => some p
  | m + 1, p => (uread (k.at p)).bind fun vn => k.skip m (p + vn.2)

/-- What an extended operation does, that begins at p with its number and whose bytes end at q. -/
def K.ext (k : K) (s : St) (p q : Nat) (op : Int) : Option (Option Row × St) :=
  if op = 1 then some (some { s.r with es := true }, k.start { s with p := q })
  else if op = 2 then
    if k.asz = 8 then match k.at (p + 1) with
      | b0 :: b1 :: b2 :: b3 :: b4 :: b5 :: b6 :: b7 :: _ => if p + 9 ≤ q then some (none, { s with p := q, r := { s.r with ad := eight k.big b0 b1 b2 b3 b4 b5 b6 b7 } }) else none
      | _ => none
    else if k.asz = 4 then match k.at (p + 1) with
      | b0 :: b1 :: b2 :: b3 :: _ => if p + 5 ≤ q then some (none, { s with p := q, r := { s.r with ad := four k.big b0 b1 b2 b3 } }) else none
      | _ => none
    else none
  else if op = 3 then (fileIn k.dirs (k.at (p + 1))).bind fun fn => match fn.1 with
      | some f => if p + 1 + fn.2 ≤ q ∧ 0 ≤ s.fi ∧ (s.n < s.fs.length → (s.fs.getD s.n none).isSome = true) then some (none, { (s.add f).upd with p := q }) else none
      | none => none
  else if op = 4 then (unum (k.at (p + 1))).bind fun vn => if p + 1 + vn.2 ≤ q then some (none, { s with p := q, r := { s.r with di := vn.1 } }) else none
  else some (none, { s with p := q })

/-- One operation: the row that it tells, if it does. -/
def K.step (k : K) (s : St) : Option (Option Row × St) := match k.at s.p with
  | [] => none
  | op :: _ =>
    if k.ob ≤ op then
      if fit s.r ((op - k.ob) / k.lr) ∧ fitL s.r.li 0 then some (emit { s with r := { k.adv s.r ((op - k.ob) / k.lr) with li := s.r.li + (k.lb + (op - k.ob) % k.lr) } } (s.p + 1)) else none
    else if op = 0 then (uread (k.at (s.p + 1))).bind fun vn => match k.at (s.p + 1 + vn.2) with
      | [] => none
      | x :: _ => if 1 ≤ vn.1 ∧ s.p + 1 + vn.2 + vn.1 ≤ k.eo then k.ext s (s.p + 1 + vn.2) (s.p + 1 + vn.2 + vn.1) x else none
    else if op = 1 then some (emit s (s.p + 1))
    else if op = 2 then (unum (k.at (s.p + 1))).bind fun vn => if fit s.r vn.1 then some (none, { s with p := s.p + 1 + vn.2, r := k.adv s.r vn.1 }) else none
    else if op = 3 then (uread (k.at (s.p + 1))).bind fun vn => if fitL s.r.li (sval vn.1 vn.2) then some (none, { s with p := s.p + 1 + vn.2, r := { s.r with li := s.r.li + sval vn.1 vn.2 } }) else none
    else if op = 4 then (unum (k.at (s.p + 1))).bind fun vn => some (none, { ({ s with fi := vn.1 } : St).upd with p := s.p + 1 + vn.2 })
    else if op = 5 then (unum (k.at (s.p + 1))).bind fun vn => some (none, { s with p := s.p + 1 + vn.2, r := { s.r with co := vn.1 } })
    else if op = 6 then some (none, { s with p := s.p + 1, r := { s.r with st := !s.r.st } })
    else if op = 7 then some (none, { s with p := s.p + 1, r := { s.r with bb := true } })
    else if op = 8 then if fit s.r ((255 - k.ob) / k.lr) then some (none, { s with p := s.p + 1, r := k.adv s.r ((255 - k.ob) / k.lr) }) else none
    else if op = 9 then match k.at (s.p + 1) with
      | b0 :: b1 :: _ => if fit s.r 0 then some (none, { s with p := s.p + 3, r := { s.r with ad := s.r.ad + two k.big b0 b1 } }) else none
      | _ => none
    else if op = 10 then some (none, { s with p := s.p + 1, r := { s.r with pe := true } })
    else if op = 11 then some (none, { s with p := s.p + 1, r := { s.r with eb := true } })
    else if op = 12 then (unum (k.at (s.p + 1))).bind fun vn => some (none, { s with p := s.p + 1 + vn.2, r := { s.r with isa := vn.1 } })
    else (k.skip (k.ol.getD op.toNat 0).toNat (s.p + 1)).bind fun p => some (none, { s with p := p })

/-- The next row, or none at the end of the bytes. -/
def K.next (k : K) : Nat → St → Option (Option Row × St)
  | 0, _ => none
  | m + 1, s => match k.at s.p with
    | [] => some (none, s)
    | _ => (k.step s).bind fun rs => match rs.1 with
      | some r => some (some r, rs.2)
      | none => k.next m rs.2

end Go.Proofs.YtdepfipebogdcaaDoor.Line

/- A line reader in memory: how its block and its files read as the plain state. -/
namespace Go.Proofs.YtdepfipebogdcaaDoor.Line
set_option maxRecDepth 100000
open Go.RowKit Go.Proofs.YtdepfipebogdcaaDoorW.PrintWords Go.Proofs.YtdepfipebogdcaaDoorW.PrintLast Go.Proofs.YtdepfipebogdcaaDoorW.PrintMore Go.Proofs.YtdepfipebogdcaaDoor.Leb Go.Proofs.YtdepfipebogdcaaDoor.Buf

/-- Is it a byte? -/
def isByte : Value → Bool
  | .int .u8 _ => true
  | _ => false
/-- Cells of the reader behind its bytes that no step turns. -/
structure RC where
  bc : BC
  sec : Value
  str : Value
  lstr : Value
  ver : Int
  seg : Int
  ol : Value
  dirs : Value
  base : Nat
  byte : isByte bc.d = false ∧ isByte bc.f = false ∧ isByte sec = false ∧ isByte str = false ∧ isByte lstr = false ∧ isByte ol = false ∧ isByte dirs = false

/-- A row's cells. -/
abbrev rowCells (r : Row) (fp : Value) : Array Value := #[.int .u64 r.ad, .int .i64 r.ix, fp, .int .i64 r.li, .int .i64 r.co, .bool r.st, .bool r.bb, .bool r.pe, .bool r.eb, .int .i64 r.isa, .int .i64 r.di, .bool r.es]
/-- The reader's cells behind its bytes. -/
abbrev rest (c : RC) (k : K) (s : St) (fv fp : Value) : Array Value :=
  #[c.sec, c.str, c.lstr, .int .u16 c.ver, .int .i64 k.asz, .int .i64 c.seg, .int .i64 k.mi, .int .i64 k.mo, .bool k.ds, .int .i64 k.lb, .int .i64 k.lr, .int .i64 k.ob, c.ol, c.dirs, fv, .int .u32 k.po, .int .u32 k.eo, .int .i64 k.n0,
    .int .u64 s.r.ad, .int .i64 s.r.ix, fp, .int .i64 s.r.li, .int .i64 s.r.co, .bool s.r.st, .bool s.r.bb, .bool s.r.pe, .bool s.r.eb, .int .i64 s.r.isa, .int .i64 s.r.di, .bool s.r.es, .int .i64 s.fi]

theorem nb_bool (b : Bool) : isByte (.bool b) = false := rfl
theorem nb_i64 (n : Int) : isByte (.int .i64 n) = false := rfl
theorem nb_u64 (n : Int) : isByte (.int .u64 n) = false := rfl
theorem nb_u32 (n : Int) : isByte (.int .u32 n) = false := rfl
theorem nb_u16 (n : Int) : isByte (.int .u16 n) = false := rfl
theorem rest_all (c : RC) (k : K) (s : St) (fv fp : Value) (h1 : isByte fv = false) (h2 : isByte fp = false) : (rest c k s fv fp).all (fun v => !isByte v) = true := by
  obtain ⟨_, _, e1, e2, e3, e4, e5⟩ := c.byte
  simp [e1, e2, e3, e4, e5, h1, h2, nb_bool, nb_i64, nb_u64, nb_u32, nb_u16]

/-- A pointer reads as a file, or none. -/
def PtrIs (w : World) (base : Nat) (v : Value) : Option Fl → Prop
  | none => v = .pointer none
  | some f => ∃ b, v = .pointer (some ⟨b, 0, none⟩) ∧ base ≤ b ∧ w.heap[b]? = some (.cells #[.string f.nm, .int .u64 f.mt, .int .i64 f.ln] 129 (0, 0))

theorem PtrIs.ptr {w : World} {base : Nat} {v : Value} {o : Option Fl} (h : PtrIs w base v o) : ∃ x, v = .pointer x := by
  cases o with
  | none => exact ⟨_, h⟩
  | some f => obtain ⟨b, rfl, _⟩ := h; exact ⟨_, rfl⟩

/-- The list of files: block b holds pointers to all that were ever known, and nothing behind them. -/
structure FilesAt (w : World) (base b cap : Nat) (fs : List (Option Fl)) : Prop where
  at_ : ∃ cs : Array Value, w.heap[b]? = some (.cells cs 90 (0, 0)) ∧ cs.size = cap ∧ (∀ i (h : i < fs.length), ∃ v, cs[i]? = some v ∧ PtrIs w base v fs[i]) ∧ (∀ i, fs.length ≤ i → i < cap → cs[i]? = some (.pointer none))
  base_ : base ≤ b
  le : fs.length ≤ cap

/-- A blocks that a step of the reader may turn: its own, the row's, and a list of files. -/
def Own (w : World) (base g ge k : Nat) : Prop := k = g ∨ k = ge ∨ base ≤ k ∧ ∃ cs x, w.heap[k]? = some (.cells cs 90 x)
/-- All other blocks are as they were. -/
structure Kx (w w' : World) (base g ge : Nat) : Prop where
  os : w'.os = w.os
  tape : w'.tape = w.tape
  output : w'.output = w.output
  size : w.heap.size ≤ w'.heap.size
  block : ∀ k, k < w.heap.size → ¬ Own w base g ge k → w'.heap[k]? = w.heap[k]?
theorem Kx.refl (w : World) (base g ge : Nat) : Kx w w base g ge := ⟨rfl, rfl, rfl, Nat.le_refl _, fun _ _ _ => rfl⟩
theorem Kx.trans {w1 w2 w3 : World} {base g ge : Nat} (h : Kx w1 w2 base g ge) (k : Kx w2 w3 base g ge) : Kx w1 w3 base g ge :=
  ⟨k.os.trans h.os, k.tape.trans h.tape, k.output.trans h.output, Nat.le_trans h.size k.size, fun i hi ho => by
    have e := h.block i hi ho
    refine (k.block i (Nat.lt_of_lt_of_le hi h.size) fun h2 => ho ?_).trans e
    rcases h2 with h2 | h2 | ⟨h2, cs, x, h3⟩
    · exact .inl h2
    · exact .inr (.inl h2)
    · exact .inr (.inr ⟨h2, cs, x, e ▸ h3⟩)⟩
theorem Kx.of_Kp {w w' : World} {base g ge : Nat} (h : Kp w w' g) : Kx w w' base g ge := ⟨h.os, h.tape, h.output, h.size, fun k hk ho => h.block k hk fun e => ho (.inl e)⟩
theorem Kx.of_below {w w' : World} {base g ge : Nat} (h : Below w.heap.size w w') : Kx w w' base g ge := ⟨h.os, h.tape, h.output, h.size, fun k hk _ => h.block k hk⟩

/-- A row of values lies in a block of its own kind. -/
def Lies {α : Type} (w : World) (t : Nat) (d : Kd α) (v : Value) (l : List α) : Prop := ∃ A cap, v = .slice A l.length cap ∧ l.length ≤ cap ∧ Kd.C d w A l.length l ∧ ∀ ad, A = some ad → ∃ cs x, w.heap[ad.block]? = some (.cells cs t x)

/-- A line reader lies in block g. -/
structure HasR (w : World) (g : Nat) (c : RC) (k : K) (s : St) : Prop where
  at_ : ∃ b cap fp, Has w g 94 (rest c k s (.slice (some ⟨b, 0, none⟩) s.n cap) fp) c.bc ⟨s.p, k.at s.p, true⟩ ∧ FilesAt w c.base b cap s.fs ∧ PtrIs w c.base fp s.r.fl
  n : s.n ≤ s.fs.length
  p : s.p ≤ k.eo
  eo : k.eo ≤ k.sec.length
  len : k.sec.length < 2147483648
  sec : Lies w 5 (Kd.int .u8) c.sec k.sec
  ol : Lies w 3 (Kd.int .i64) c.ol k.ol
  dirs : Lies w 9 Kd.string c.dirs k.dirs
  base : c.base ≤ g
  big : c.bc.big = k.big

theorem Lies.kx {α : Type} {w w' : World} {base g ge t : Nat} {d : Kd α} {v : Value} {l : List α} (hd : ∀ w w1 x cs, d.K w x cs → d.K w1 x cs) (h : Lies w t d v l) (hk : Kx w w' base g ge)
    (hg : ∀ cs x, w.heap[g]? ≠ some (Obj.cells cs t x)) (he : ∀ cs x, w.heap[ge]? ≠ some (Obj.cells cs t x)) (ht : t ≠ 90) : Lies w' t d v l := by
  obtain ⟨A, cap, rfl, hc, hC, hA⟩ := h
  have hb : ∀ ad, A = some ad → w'.heap[ad.block]? = w.heap[ad.block]? := by
    intro ad e
    obtain ⟨cs, x, h⟩ := hA ad e
    refine hk.block ad.block (blk_lt h) ?_
    rintro (e1 | e1 | ⟨_, cs1, x1, e1⟩)
    · exact hg cs x (e1 ▸ h)
    · exact he cs x (e1 ▸ h)
    · rw [h] at e1
      injection e1 with e1
      injection e1 with _ e1
      exact ht e1
  refine ⟨A, cap, rfl, hc, ⟨hC.1, hC.2.1, fun hp => ?_⟩, fun ad e => ?_⟩
  · obtain ⟨ad, e, hx⟩ := hC.2.2 hp
    refine ⟨ad, e, fun j p hj => ?_⟩
    obtain ⟨cs, h1, h2, h3⟩ := hx j p hj
    refine ⟨cs, h1, hd _ _ _ _ h2, fun q u hq => ?_⟩
    rw [← h3 q u hq]
    have hbl : (ad.add (j * d.sz + q)).block = ad.block := add_block _ _
    unfold World.cell?
    rw [hbl, hb ad e]
  · obtain ⟨cs, x, h⟩ := hA ad e
    exact ⟨cs, x, (hb ad e).trans h⟩

theorem PtrIs.keep {w w' : World} {base : Nat} {v : Value} {o : Option Fl} (h : PtrIs w base v o) (hk : ∀ b cs, base ≤ b → w.heap[b]? = some (.cells cs 129 (0, 0)) → w'.heap[b]? = w.heap[b]?) : PtrIs w' base v o := by
  cases o with
  | none => exact h
  | some f =>
    obtain ⟨b, rfl, hb, hh⟩ := h
    exact ⟨b, rfl, hb, (hk b _ hb hh).trans hh⟩

/-- A cell behind the bytes is stored. -/
theorem _root_.Go.Proofs.YtdepfipebogdcaaDoor.Buf.Has.setR {w : World} {g t : Nat} {rest : Array Value} {c : BC} {s : S} (h : Has w g t rest c s) (j : Nat) {v0 : Value} (hj : rest[j]? = some v0) (hv : ∀ x, v0 ≠ .int .u8 x) (v : Value) :
    Has (w.setCell ⟨g, 7 + j, none⟩ v) g t (rest.setIfInBounds j v) c s := by
  obtain ⟨A, cap, ev, hg, hC, hc, he⟩ := h.at_
  have h2 := blk_set hg (7 + j) v
  have hlt : j < rest.size := (Array.getElem?_eq_some_iff.1 hj).1
  have q : w.cell? ⟨g, 7 + j, none⟩ = some v0 := by
    rw [blk_cell hg, Array.getElem?_append_right (by simp)]
    simpa using hj
  refine ⟨⟨A, cap, ev, ?_, C_set hC q hv v, hc, he⟩, h.len, h.byte, h.nil_⟩
  rw [h2]
  congr 2
  apply Array.ext_getElem?
  intro i
  by_cases hi : i = 7 + j
  · subst hi
    rw [Array.getElem?_append_right (by simp)]
    simp [hlt]
  · rw [Array.getElem?_setIfInBounds_ne (by omega)]
    by_cases hi7 : i < 7
    · rw [Array.getElem?_append_left (by simpa using hi7), Array.getElem?_append_left (by simpa using hi7)]
    · rw [Array.getElem?_append_right (by simp; omega), Array.getElem?_append_right (by simp; omega), Array.getElem?_setIfInBounds_ne (by simp; omega)]
theorem _root_.Go.Proofs.YtdepfipebogdcaaDoor.Buf.Has.put {w : World} {g t : Nat} {rest : Array Value} {c : BC} {s : S} (h : Has w g t rest c s) (j : Nat) (v : Value) {v0 : Value} (hj : rest[j]? = some v0 := by rfl) (hv : isByte v0 = false := by rfl) :
    Has (w.setCell ⟨g, 7 + j, none⟩ v) g t (rest.setIfInBounds j v) c s := h.setR j hj (fun x e => by subst e; cases hv) v
/-- The reader's block was written behind its bytes: all at once. -/
theorem _root_.Go.Proofs.YtdepfipebogdcaaDoor.Buf.Has.all {w w' : World} {g t : Nat} {rest rest' : Array Value} {c : BC} {s : S} (h : Has w g t rest c s) (hk : Kp w w' g)
    (hb : ∀ a, w.heap[g]? = some (.cells (a ++ rest) t (0, 0)) → a.size = 7 → w'.heap[g]? = some (.cells (a ++ rest') t (0, 0))) (hr : rest.all (fun v => !isByte v) = true) (hd : isByte c.d = false ∧ isByte c.f = false) : Has w' g t rest' c s := by
  obtain ⟨A, cap, ev, hg, hC, hc, he⟩ := h.at_
  refine ⟨⟨A, cap, ev, hb _ hg rfl, ⟨hC.1, hC.2.1, fun hp => ?_⟩, hc, he⟩, h.len, h.byte, h.nil_⟩
  obtain ⟨ad, e, hx⟩ := hC.2.2 hp
  refine ⟨ad, e, fun j p hj => ?_⟩
  obtain ⟨cs, h1, h2, h3⟩ := hx j p hj
  refine ⟨cs, h1, h2, fun q u hq => ?_⟩
  have h4 := h3 q u hq
  have hlt : ad.block < w.heap.size := by
    have := World.block_lt_of_cell? w _ h4
    rwa [add_block] at this
  have hne : ad.block ≠ g := by
    intro e1
    have hu : ∃ x, u = .int .u8 x := by
      obtain rfl : cs = [.int .u8 p] := h2
      cases q with
      | zero => exact ⟨p, (Option.some.inj hq).symm⟩
      | succ q => simp at hq
    obtain ⟨x, rfl⟩ := hu
    have hbl : (ad.add (j * u8s.sz + q)).block = g := (add_block _ _).trans e1
    unfold World.cell? at h4
    rw [hbl, hg] at h4
    simp only at h4
    split at h4
    · cases h4
    · obtain ⟨i, hi⟩ : ∃ i, i = (ad.add (j * u8s.sz + q)).off := ⟨_, rfl⟩
      rw [← hi] at h4
      by_cases h7 : i < 7
      · rw [Array.getElem?_append_left (by simpa using h7)] at h4
        have h8 := List.mem_of_getElem? (l := (cellsOf c s A cap ev).toList) (by simpa using h4)
        unfold ErrIs at he
        split at he
        · subst he
          simp at h8
          rcases h8 with h8 | h8 <;> simp [← h8, isByte] at hd
        · obtain ⟨t', x', rfl⟩ := he
          simp at h8
          rcases h8 with h8 | h8 <;> simp [← h8, isByte] at hd
      · rw [Array.getElem?_append_right (by simp; omega)] at h4
        have h5 := Array.all_eq_true'.1 hr _ (Array.mem_of_getElem? h4)
        simp [isByte] at h5
  rw [← h4]
  unfold World.cell?
  rw [add_block, hk.block ad.block hlt hne]
theorem _root_.Go.Proofs.YtdepfipebogdcaaDoor.Buf.Has.drewN {w : World} {g t : Nat} {rest : Array Value} {c : BC} {s : S} (h : Has w g t rest c s) (n : Nat) : Has (w.drewN n) g t rest c s := h.below ⟨rfl, rfl, rfl, Nat.le_refl _, fun _ _ => rfl⟩
/-- The cells behind the bytes. -/
theorem _root_.Go.Proofs.YtdepfipebogdcaaDoor.Buf.Has.restc {w : World} {g t : Nat} {rest : Array Value} {c : BC} {s : S} (h : Has w g t rest c s) (j : Nat) : w.cell? ⟨g, 7 + j, none⟩ = rest[j]? := by
  obtain ⟨A, cap, ev, hg, _⟩ := h.at_
  rw [blk_cell hg, Array.getElem?_append_right (by simp)]
  simp
theorem _root_.Go.Proofs.YtdepfipebogdcaaDoor.Buf.Has.free {w : World} {g t : Nat} {rest : Array Value} {c : BC} {s : S} (h : Has w g t rest c s) (j : Nat) : w.frozen? ⟨g, j, none⟩ = false := by
  obtain ⟨A, cap, ev, hg, _⟩ := h.at_
  exact blk_frozen hg j
theorem _root_.Go.Proofs.YtdepfipebogdcaaDoor.Buf.Has.blk {w : World} {g t : Nat} {rest : Array Value} {c : BC} {s : S} (h : Has w g t rest c s) : ∃ cs, w.heap[g]? = some (.cells cs t (0, 0)) := by
  obtain ⟨A, cap, ev, hg, _⟩ := h.at_
  exact ⟨_, hg⟩

/-- What a step leaves that turns no file: the reader's block and the row's alone are written. -/
structure K2 (w w' : World) (g ge : Nat) : Prop where
  os : w'.os = w.os
  tape : w'.tape = w.tape
  output : w'.output = w.output
  size : w.heap.size ≤ w'.heap.size
  block : ∀ k, k < w.heap.size → k ≠ g → k ≠ ge → w'.heap[k]? = w.heap[k]?
theorem K2.refl (w : World) (g ge : Nat) : K2 w w g ge := ⟨rfl, rfl, rfl, Nat.le_refl _, fun _ _ _ _ => rfl⟩
theorem K2.trans {w1 w2 w3 : World} {g ge : Nat} (h : K2 w1 w2 g ge) (k : K2 w2 w3 g ge) : K2 w1 w3 g ge := ⟨k.os.trans h.os, k.tape.trans h.tape, k.output.trans h.output, Nat.le_trans h.size k.size, fun i hi hg he => (k.block i (Nat.lt_of_lt_of_le hi h.size) hg he).trans (h.block i hi hg he)⟩
theorem K2.kp {w w1 w2 : World} {g ge : Nat} (h : K2 w w1 g ge) (k : Kp w1 w2 g) : K2 w w2 g ge := h.trans ⟨k.os, k.tape, k.output, k.size, fun i hi hg _ => k.block i hi hg⟩
theorem K2.set {w w1 : World} {g ge : Nat} (h : K2 w w1 g ge) (j : Nat) (v : Value) : K2 w (w1.setCell ⟨g, j, none⟩ v) g ge := h.kp ((Kp.refl w1 g).set j v)
theorem K2.drewN {w w1 : World} {g ge : Nat} (h : K2 w w1 g ge) (n : Nat) : K2 w (w1.drewN n) g ge := h.kp ((Kp.refl w1 g).drewN n)
theorem K2.alloc {w w1 : World} {g ge : Nat} (h : K2 w w1 g ge) (o : Obj) : K2 w (w1.alloc o) g ge :=
  h.trans ⟨rfl, rfl, rfl, by simp, fun i hi _ _ => heap_alloc_old w1 o hi⟩
theorem K2.kx {w w' : World} {base g ge : Nat} (h : K2 w w' g ge) : Kx w w' base g ge := ⟨h.os, h.tape, h.output, h.size, fun k hk ho => h.block k hk (fun e => ho (.inl e)) (fun e => ho (.inr (.inl e)))⟩

/-- A block of another type is none of these. -/
theorem ne_blk {w : World} {g t t' : Nat} {cs : Array Value} (h : w.heap[g]? = some (.cells cs t (0, 0))) (ht : t ≠ t') : ∀ cs' x, w.heap[g]? ≠ some (Obj.cells cs' t' x) := by
  intro cs' x e
  rw [h] at e
  injection e with e
  injection e with _ e
  exact ht e

theorem PtrIs.kp {w w' : World} {base g t : Nat} {v : Value} {o : Option Fl} (h : PtrIs w base v o) (hk : Kp w w' g) (hg : ∃ cs, w.heap[g]? = some (.cells cs t (0, 0))) (h2 : t ≠ 129 := by decide) : PtrIs w' base v o := by
  obtain ⟨cg, hg⟩ := hg
  exact h.keep fun b' cs _ hb => hk.block b' (blk_lt hb) (blk_ne hb hg h2.symm)
theorem FilesAt.kp {w w' : World} {base b cap g t : Nat} {fs : List (Option Fl)} (h : FilesAt w base b cap fs) (hk : Kp w w' g) (hg : ∃ cs, w.heap[g]? = some (.cells cs t (0, 0))) (h1 : t ≠ 90 := by decide) (h2 : t ≠ 129 := by decide) : FilesAt w' base b cap fs := by
  obtain ⟨⟨cs, e1, e2, e3, e4⟩, h5, h6⟩ := h
  obtain ⟨cg, hg⟩ := hg
  refine ⟨⟨cs, (hk.block b (blk_lt e1) (blk_ne e1 hg h1.symm)).trans e1, e2, fun i hi => ?_, e4⟩, h5, h6⟩
  obtain ⟨v, hv, hp⟩ := e3 i hi
  exact ⟨v, hv, hp.keep fun b' cs _ hb => hk.block b' (blk_lt hb) (blk_ne hb hg h2.symm)⟩

/-- What stands behind a step that turns no file. -/
theorem HasR.turn {w w' : World} {g ge : Nat} {c : RC} {k : K} {s s' : St} {b cap : Nat} {fp : Value} {es : Array Value} (h : HasR w g c k s) (he : w.heap[ge]? = some (.cells es 92 (0, 0))) (hF : FilesAt w c.base b cap s.fs) (hP : PtrIs w c.base fp s.r.fl)
    (hk : K2 w w' g ge) (hp : s'.p ≤ k.eo) (hH : ∀ fv, fv = .slice (some ⟨b, 0, none⟩) s'.n cap → Has w' g 94 (rest c k s' fv fp) c.bc ⟨s'.p, k.at s'.p, true⟩) (e1 : s'.fs = s.fs) (e2 : s'.n = s.n) (e3 : s'.r.fl = s.r.fl) : HasR w' g c k s' := by
  obtain ⟨b0, cap0, fp0, hH0, hF0, hP0⟩ := h.at_
  obtain ⟨cs0, hg0⟩ := hH0.blk
  have keep : ∀ (b' : Nat) (cs : Array Value) (t : Nat), t ≠ 94 → t ≠ 92 → w.heap[b']? = some (Obj.cells cs t (0, 0)) → w'.heap[b']? = w.heap[b']? := fun b' cs t n1 n2 hb => hk.block b' (blk_lt hb) (blk_ne hb hg0 n1) (blk_ne hb he n2)
  refine ⟨⟨b, cap, fp, hH _ rfl, ?_, e3 ▸ hP.keep fun b' cs _ hb => keep b' cs _ (by decide) (by decide) hb⟩, e1 ▸ e2 ▸ h.n, hp, h.eo, h.len, ?_, ?_, ?_, h.base, h.big⟩
  · obtain ⟨⟨cs, h1, h2, h3, h4⟩, h5, h6⟩ := hF
    rw [e1]
    refine ⟨⟨cs, (keep b cs _ (by decide) (by decide) h1).trans h1, h2, fun i hi => ?_, h4⟩, h5, h6⟩
    obtain ⟨v, hv, hp⟩ := h3 i hi
    exact ⟨v, hv, hp.keep fun b' cs _ hb => keep b' cs _ (by decide) (by decide) hb⟩
  · exact h.sec.kx (base := c.base) (fun _ _ _ _ h => h) hk.kx (ne_blk hg0 (by decide)) (ne_blk he (by decide)) (by decide)
  · exact h.ol.kx (base := c.base) (fun _ _ _ _ h => h) hk.kx (ne_blk hg0 (by decide)) (ne_blk he (by decide)) (by decide)
  · exact h.dirs.kx (base := c.base) (fun _ _ _ _ h => h) hk.kx (ne_blk hg0 (by decide)) (ne_blk he (by decide)) (by decide)

/-- What stands behind a step. -/
theorem HasR.next {w w' : World} {g ge : Nat} {c : RC} {k : K} {s s' : St} {b cap : Nat} {fp : Value} {es : Array Value} (h : HasR w g c k s) (he : w.heap[ge]? = some (.cells es 92 (0, 0))) (hk : Kx w w' c.base g ge) (hp : s'.p ≤ k.eo) (hn : s'.n ≤ s'.fs.length)
    (hH : Has w' g 94 (rest c k s' (.slice (some ⟨b, 0, none⟩) s'.n cap) fp) c.bc ⟨s'.p, k.at s'.p, true⟩) (hF : FilesAt w' c.base b cap s'.fs) (hP : PtrIs w' c.base fp s'.r.fl) : HasR w' g c k s' := by
  obtain ⟨b0, cap0, fp0, hH0, hF0, hP0⟩ := h.at_
  obtain ⟨cs0, hg0⟩ := hH0.blk
  refine ⟨⟨b, cap, fp, hH, hF, hP⟩, hn, hp, h.eo, h.len, ?_, ?_, ?_, h.base, h.big⟩
  · exact h.sec.kx (base := c.base) (fun _ _ _ _ h => h) hk (ne_blk hg0 (by decide)) (ne_blk he (by decide)) (by decide)
  · exact h.ol.kx (base := c.base) (fun _ _ _ _ h => h) hk (ne_blk hg0 (by decide)) (ne_blk he (by decide)) (by decide)
  · exact h.dirs.kx (base := c.base) (fun _ _ _ _ h => h) hk (ne_blk hg0 (by decide)) (ne_blk he (by decide)) (by decide)

/-- The bounds of what never turns. -/
structure KOk (k : K) : Prop where
  mi0 : 0 ≤ k.mi
  mi1 : k.mi < 256
  mo0 : 1 ≤ k.mo
  mo1 : k.mo < 256
  lb0 : -128 ≤ k.lb
  lb1 : k.lb < 128
  lr0 : 1 ≤ k.lr
  lr1 : k.lr < 256
  ob0 : 0 ≤ k.ob
  ob1 : k.ob < 256
  ol : (k.ol.length : Int) = k.ob
  byte : Bytes k.sec

theorem adv_at {k : K} {p n : Nat} (h : p + n < 4294967296) : (S.mk (p : Int) (k.at p) true).adv n = ⟨((p + n : Nat) : Int), k.at (p + n), true⟩ := by
  unfold S.adv K.at
  simp only [List.drop_drop]
  congr 1
  omega

/-- The row's block: a row was told, or it is as it was. -/
def EntryIs (w' : World) (base ge : Nat) (es : Array Value) : Option Row → Prop
  | none => w'.heap[ge]? = some (.cells es 92 (0, 0))
  | some r => ∃ fp, PtrIs w' base fp r.fl ∧ w'.heap[ge]? = some (.cells (rowCells r fp) 92 (0, 0))
/-- What a step leaves. -/
def StepPost (w : World) (g ge : Nat) (c : RC) (k : K) (es : Array Value) (o : Option Row) (s' : St) (e : Ending) (w' : World) : Prop :=
  e = .returned (.bool o.isSome) ∧ HasR w' g c k s' ∧ EntryIs w' c.base ge es o ∧ Kx w w' c.base g ge
/-- What a step that tells no row leaves. -/
theorem step_none {w w' : World} {g ge b cap : Nat} {c : RC} {k : K} {s s' : St} {fp : Value} {es : Array Value} (h : HasR w g c k s) (he : w.heap[ge]? = some (.cells es 92 (0, 0))) (hF : FilesAt w c.base b cap s.fs) (hP : PtrIs w c.base fp s.r.fl)
    (hk : Kp w w' g) (hp : s'.p ≤ k.eo) (hH : ∀ fv, fv = .slice (some ⟨b, 0, none⟩) s'.n cap → Has w' g 94 (rest c k s' fv fp) c.bc ⟨s'.p, k.at s'.p, true⟩) (e1 : s'.fs = s.fs) (e2 : s'.n = s.n) (e3 : s'.r.fl = s.r.fl) : StepPost w g ge c k es none s' (.returned (.bool false)) w' := by
  obtain ⟨b0, cap0, fp0, hH0, _⟩ := h.at_
  obtain ⟨cs0, hg0⟩ := hH0.blk
  exact ⟨rfl, h.turn he hF hP ((K2.refl w g ge).kp hk) hp hH e1 e2 e3, (hk.block ge (blk_lt he) (blk_ne he hg0 (by decide))).trans he, ((K2.refl w g ge).kp hk).kx⟩

theorem _root_.Go.Proofs.YtdepfipebogdcaaDoor.Buf.Has.st1 {w : World} {g t : Nat} {rest : Array Value} {c : BC} {s : S} (h : Has w g t rest c s) (i : Nat) (v : Value) {rest' : Array Value} (hr : rest.all (fun v => !isByte v) = true) (hd : isByte c.d = false ∧ isByte c.f = false)
    (e : ∀ a : Array Value, a.size = 7 → (a ++ rest).setIfInBounds i v = a ++ rest') : Has (w.setCell ⟨g, i, none⟩ v) g t rest' c s :=
  h.all ((Kp.refl w g).set i v) (fun a ha h7 => by rw [blk_set ha i v, e a h7]) hr hd

/-- Blocks without bytes were written: bytes read as before. -/
theorem C_keep {w w' : World} {A : Option Addr} {n : Nat} {l : List Int} (h : Kd.C (Kd.int .u8) w A n l) (b : Nat) (hk : ∀ k, k < w.heap.size → k ≠ b → w'.heap[k]? = w.heap[k]?) (hb : ∀ cs t f, w.heap[b]? = some (.cells cs t f) → cs.all (fun v => !isByte v) = true) : Kd.C (Kd.int .u8) w' A n l := by
  refine ⟨h.1, h.2.1, fun hp => ?_⟩
  obtain ⟨ad, e, hx⟩ := h.2.2 hp
  refine ⟨ad, e, fun j p hj => ?_⟩
  obtain ⟨cs, h1, h2, h3⟩ := hx j p hj
  refine ⟨cs, h1, h2, fun q u hq => ?_⟩
  have h4 := h3 q u hq
  have hlt : ad.block < w.heap.size := by
    have := World.block_lt_of_cell? w _ h4
    rwa [add_block] at this
  have hne : ad.block ≠ b := by
    intro e1
    have hu : ∃ x, u = .int .u8 x := by
      obtain rfl : cs = [.int .u8 p] := h2
      cases q with
      | zero => exact ⟨p, (Option.some.inj hq).symm⟩
      | succ q => simp at hq
    obtain ⟨x, rfl⟩ := hu
    have hbl : (ad.add (j * (Kd.int IntKind.u8).sz + q)).block = b := (add_block _ _).trans e1
    unfold World.cell? at h4
    rw [hbl] at h4
    split at h4
    · rename_i hcs
      split at h4
      · cases h4
      · have h5 := Array.all_eq_true'.1 (hb _ _ _ hcs) _ (Array.mem_of_getElem? h4)
        simp [isByte] at h5
    · cases h4
  rw [← h4]
  unfold World.cell?
  rw [add_block, hk ad.block hlt hne]
theorem _root_.Go.Proofs.YtdepfipebogdcaaDoor.Buf.Has.far {w w' : World} {g t : Nat} {rest : Array Value} {c : BC} {s : S} (h : Has w g t rest c s) (b : Nat) (hne : g ≠ b) (hk : ∀ k, k < w.heap.size → k ≠ b → w'.heap[k]? = w.heap[k]?) (hb : ∀ cs t f, w.heap[b]? = some (.cells cs t f) → cs.all (fun v => !isByte v) = true) : Has w' g t rest c s := by
  obtain ⟨A, cap, ev, hg, hC, hc, he⟩ := h.at_
  exact ⟨⟨A, cap, ev, (hk g (blk_lt hg) hne).trans hg, C_keep hC b hk hb, hc, he⟩, h.len, h.byte, h.nil_⟩

/-- The cells of a row's block. -/
def IsRow (es : Array Value) : Prop := es.size = 12 ∧ es.all (fun v => !isByte v) = true
theorem isRow_mk (r : Row) (x : Option Addr) : IsRow (rowCells r (.pointer x)) := ⟨rfl, by simp [isByte]⟩
theorem arr12 {es : Array Value} (h : es.size = 12) : ∃ e0 e1 e2 e3 e4 e5 e6 e7 e8 e9 e10 e11, es = #[e0, e1, e2, e3, e4, e5, e6, e7, e8, e9, e10, e11] := by
  obtain ⟨l⟩ := es
  match l, h with
  | [e0, e1, e2, e3, e4, e5, e6, e7, e8, e9, e10, e11], _ => exact ⟨e0, e1, e2, e3, e4, e5, e6, e7, e8, e9, e10, e11, rfl⟩
/-- A row is stored into its block. -/
theorem row_stored {w : World} {ge : Nat} {es : Array Value} (he : w.heap[ge]? = some (.cells es 92 (0, 0))) (hs : es.size = 12) (v0 v1 v2 v3 v4 v5 v6 v7 v8 v9 v10 v11 : Value) :
    (((((((((((((w.setCell ⟨ge, 0, none⟩ v0).setCell ⟨ge, 1, none⟩ v1).setCell ⟨ge, 2, none⟩ v2).setCell ⟨ge, 3, none⟩ v3).setCell ⟨ge, 4, none⟩ v4).setCell ⟨ge, 5, none⟩ v5).setCell ⟨ge, 6, none⟩ v6).setCell ⟨ge, 7, none⟩ v7).setCell ⟨ge, 8, none⟩ v8).setCell ⟨ge, 9, none⟩ v9).setCell ⟨ge, 10, none⟩ v10).setCell ⟨ge, 11, none⟩ v11).heap[ge]? = some (.cells #[v0, v1, v2, v3, v4, v5, v6, v7, v8, v9, v10, v11] 92 (0, 0))) ∧
    Kp w ((((((((((((w.setCell ⟨ge, 0, none⟩ v0).setCell ⟨ge, 1, none⟩ v1).setCell ⟨ge, 2, none⟩ v2).setCell ⟨ge, 3, none⟩ v3).setCell ⟨ge, 4, none⟩ v4).setCell ⟨ge, 5, none⟩ v5).setCell ⟨ge, 6, none⟩ v6).setCell ⟨ge, 7, none⟩ v7).setCell ⟨ge, 8, none⟩ v8).setCell ⟨ge, 9, none⟩ v9).setCell ⟨ge, 10, none⟩ v10).setCell ⟨ge, 11, none⟩ v11) ge := by
  refine ⟨?_, ((((((((((((Kp.refl w ge).set 0 _).set 1 _).set 2 _).set 3 _).set 4 _).set 5 _).set 6 _).set 7 _).set 8 _).set 9 _).set 10 _).set 11 _⟩
  obtain ⟨e0, e1, e2, e3, e4, e5, e6, e7, e8, e9, e10, e11, rfl⟩ := arr12 hs
  rw [blk_set (blk_set (blk_set (blk_set (blk_set (blk_set (blk_set (blk_set (blk_set (blk_set (blk_set (blk_set he 0 _) 1 _) 2 _) 3 _) 4 _) 5 _) 6 _) 7 _) 8 _) 9 _) 10 _) 11 _]
  simp

theorem FilesAt.k2 {w w' : World} {base b cap g ge : Nat} {fs : List (Option Fl)} (h : FilesAt w base b cap fs) (hk : K2 w w' g ge) (hg : ∃ cs, w.heap[g]? = some (.cells cs 94 (0, 0))) (he : ∃ cs, w.heap[ge]? = some (.cells cs 92 (0, 0))) : FilesAt w' base b cap fs := by
  obtain ⟨⟨cs, e1, e2, e3, e4⟩, h5, h6⟩ := h
  obtain ⟨cg, hg⟩ := hg
  obtain ⟨ce, he⟩ := he
  refine ⟨⟨cs, (hk.block b (blk_lt e1) (blk_ne e1 hg (by decide)) (blk_ne e1 he (by decide))).trans e1, e2, fun i hi => ?_, e4⟩, h5, h6⟩
  obtain ⟨v, hv, hp⟩ := e3 i hi
  exact ⟨v, hv, hp.keep fun b' cs _ hb => hk.block b' (blk_lt hb) (blk_ne hb hg (by decide)) (blk_ne hb he (by decide))⟩
theorem PtrIs.k2 {w w' : World} {base g ge : Nat} {v : Value} {o : Option Fl} (h : PtrIs w base v o) (hk : K2 w w' g ge) (hg : ∃ cs, w.heap[g]? = some (.cells cs 94 (0, 0))) (he : ∃ cs, w.heap[ge]? = some (.cells cs 92 (0, 0))) : PtrIs w' base v o := by
  obtain ⟨cg, hg⟩ := hg
  obtain ⟨ce, he⟩ := he
  exact h.keep fun b' cs _ hb => hk.block b' (blk_lt hb) (blk_ne hb hg (by decide)) (blk_ne hb he (by decide))
theorem K2.kpe {w w1 w2 : World} {g ge : Nat} (h : K2 w w1 g ge) (k : Kp w1 w2 ge) : K2 w w2 g ge := h.trans ⟨k.os, k.tape, k.output, k.size, fun i hi _ he => k.block i hi he⟩

end Go.Proofs.YtdepfipebogdcaaDoor.Line

/- The small functions of a line reader: updateFile, advancePC, resetState. -/
namespace Go.Proofs.YtdepfipebogdcaaDoor.Line
set_option maxRecDepth 100000
open Go.RowKit Go.Proofs.YtdepfipebogdcaaDoorW.PrintWords Go.Proofs.YtdepfipebogdcaaDoorW.PrintLast Go.Proofs.YtdepfipebogdcaaDoorW.PrintMore Go.Proofs.YtdepfipebogdcaaDoor.Leb Go.Proofs.YtdepfipebogdcaaDoor.Buf

theorem update_in (g b cap n m : Nat) (x : Option Addr) (w : World) (h : m < n) (q1 : w.cell? ⟨g, 37, none⟩ = some (.int .i64 (m : Int))) (q2 : w.cell? ⟨g, 21, none⟩ = some (.slice (some ⟨b, 0, none⟩) n cap)) (v : Value) (q4 : w.cell? ⟨g, 27, none⟩ = some v) (q3 : w.cell? ⟨b, m, none⟩ = some (.pointer x)) (f : w.frozen? ⟨g, 27, none⟩ = false) :
    Calls Tryd.prog 66 #[.pointer (some ⟨g, 0, none⟩)] w fun e w' => e = .returned (.tuple #[]) ∧ ∃ j, w' = (w.setCell ⟨g, 27, none⟩ (.pointer x)).drewN j := by
  have n0 : g < w.heap.size := World.block_lt_of_cell? w _ q1
  have n1 : b < w.heap.size := World.block_lt_of_cell? w _ q3
  have c1 : decide ((m : Int) < (n : Int)) = true := by simpa using h
  have c2 : (0 ≤ (m : Int)) = True := eq_true (by omega)
  have c3 : ((m : Int) < (n : Int)) = True := eq_true (by omega)
  go_enter Tryd.func66, Tryd.ntmps66
  go_wp2
  go_quiet (fail)
  go_wp2
  go_region
  all_goals go_wp2
  all_goals (go_end0; exact ⟨rfl, _, rfl⟩)
theorem update_out (g b cap n : Nat) (m : Int) (w : World) (h : (n : Int) ≤ m) (q1 : w.cell? ⟨g, 37, none⟩ = some (.int .i64 m)) (q2 : w.cell? ⟨g, 21, none⟩ = some (.slice (some ⟨b, 0, none⟩) n cap)) (v : Value) (q4 : w.cell? ⟨g, 27, none⟩ = some v) (f : w.frozen? ⟨g, 27, none⟩ = false) :
    Calls Tryd.prog 66 #[.pointer (some ⟨g, 0, none⟩)] w fun e w' => e = .returned (.tuple #[]) ∧ ∃ j, w' = (w.setCell ⟨g, 27, none⟩ (.pointer none)).drewN j := by
  have n0 : g < w.heap.size := World.block_lt_of_cell? w _ q1
  have c1 : decide (m < (n : Int)) = false := by simpa using h
  go_enter Tryd.func66, Tryd.ntmps66
  go_wp2
  go_quiet (fail)
  go_wp2
  go_end0
  exact ⟨rfl, _, rfl⟩

/-- updateFile: the pointer to the file of the number. -/
theorem update_calls {g b cap n : Nat} {base : Nat} {fs : List (Option Fl)} {fi : Int} {w : World} (hF : FilesAt w base b cap fs) (hn : n ≤ fs.length) (h0 : 0 ≤ fi) (q1 : w.cell? ⟨g, 37, none⟩ = some (.int .i64 fi)) (q2 : w.cell? ⟨g, 21, none⟩ = some (.slice (some ⟨b, 0, none⟩) n cap)) {v : Value} (q4 : w.cell? ⟨g, 27, none⟩ = some v) (f : w.frozen? ⟨g, 27, none⟩ = false) :
    Calls Tryd.prog 66 #[.pointer (some ⟨g, 0, none⟩)] w fun e w' => e = .returned (.tuple #[]) ∧ ∃ j fp, PtrIs w base fp (fileAt fs n fi) ∧ (∃ x, fp = .pointer x) ∧ w' = (w.setCell ⟨g, 27, none⟩ fp).drewN j := by
  obtain ⟨m, rfl⟩ := Int.eq_ofNat_of_zero_le h0
  by_cases h : m < n
  · obtain ⟨cs, h1, h2, h3, h4⟩ := hF.at_
    obtain ⟨fp, e1, e2⟩ := h3 m (by omega)
    have hx : ∃ x, fp = .pointer x := by
      cases ho : fs[m]'(by omega) with
      | none => rw [ho] at e2; exact ⟨none, e2⟩
      | some f => rw [ho] at e2; obtain ⟨b', rfl, _⟩ := e2; exact ⟨_, rfl⟩
    obtain ⟨x, rfl⟩ := hx
    refine (update_in g b cap n m x w h q1 q2 v q4 ((blk_cell h1 m).trans e1) f).mono ?_
    rintro e w' ⟨rfl, j, rfl⟩
    refine ⟨rfl, j, _, ?_, ⟨_, rfl⟩, rfl⟩
    have e3 : fileAt fs n (m : Int) = fs[m]'(by omega) := by
      unfold fileAt
      rw [if_pos (by omega), Int.toNat_natCast, List.getD_eq_getElem?_getD, List.getElem?_eq_getElem (by omega)]
      rfl
    rw [e3]
    exact e2
  · refine (update_out g b cap n m w (by omega) q1 q2 v q4 f).mono ?_
    rintro e w' ⟨rfl, j, rfl⟩
    refine ⟨rfl, j, _, ?_, ⟨_, rfl⟩, rfl⟩
    have e3 : fileAt fs n (m : Int) = none := by unfold fileAt; rw [if_neg (by omega)]
    rw [e3]
    rfl

/-- advancePC. -/
theorem advance_calls (g : Nat) (ad ix mi mo v : Int) (w : World) (h0 : 0 ≤ ix) (h1 : ix < 256) (h2 : 0 ≤ v) (h3 : v ≤ 4294967296) (h4 : 0 ≤ ad) (h5 : ad < 9223372036854775808) (h6 : 0 ≤ mi) (h7 : mi < 256) (h8 : 1 ≤ mo) (h9 : mo < 256)
    (q1 : w.cell? ⟨g, 25, none⟩ = some (.int .u64 ad)) (q2 : w.cell? ⟨g, 26, none⟩ = some (.int .i64 ix)) (q3 : w.cell? ⟨g, 13, none⟩ = some (.int .i64 mi)) (q4 : w.cell? ⟨g, 14, none⟩ = some (.int .i64 mo)) (f1 : w.frozen? ⟨g, 25, none⟩ = false) (f2 : w.frozen? ⟨g, 26, none⟩ = false) :
    Calls Tryd.prog 67 #[.pointer (some ⟨g, 0, none⟩), .int .i64 v] w fun e w' => e = .returned (.tuple #[]) ∧ ∃ j, w' = ((w.setCell ⟨g, 25, none⟩ (.int .u64 (ad + mi * ((ix + v) / mo)))).setCell ⟨g, 26, none⟩ (.int .i64 ((ix + v) % mo))).drewN j := by
  have n0 : g < w.heap.size := World.block_lt_of_cell? w _ q1
  obtain ⟨t, ht⟩ : ∃ t, ix + v = t := ⟨_, rfl⟩
  have r1 : 0 ≤ t := by omega
  have r2 : t ≤ 4294967551 := by omega
  have d1 : 0 ≤ t / mo := Int.ediv_nonneg r1 (by omega)
  have d2 : t / mo ≤ t := Int.ediv_le_self _ r1
  have m0 : 0 ≤ mi * (t / mo) := Int.mul_nonneg h6 d1
  have m1 : mi * (t / mo) ≤ 255 * 4294967551 := Int.mul_le_mul (by omega) (by omega) d1 (by omega)
  obtain ⟨q, hq⟩ : ∃ q, t / mo = q := ⟨_, rfl⟩
  obtain ⟨p, hp⟩ : ∃ p, mi * q = p := ⟨_, rfl⟩
  obtain ⟨m, hm⟩ : ∃ m, t % mo = m := ⟨_, rfl⟩
  rw [hq, hp] at m0 m1
  have e1 : IntKind.i64.wrap (ix + v) = t := by rw [ht, IntKind.wrap_i64]; omega
  have e2 : t.tdiv mo = q := by rw [Int.tdiv_eq_ediv_of_nonneg r1]; exact hq
  have e3 : t.tmod mo = m := by rw [Int.tmod_eq_emod_of_nonneg r1]; exact hm
  have e4 : IntKind.i64.wrap (mi * q) = p := by rw [hp, IntKind.wrap_i64]; omega
  have e4' : wrap64 (mi * q) = p := by rw [hp]; unfold wrap64; omega
  have e9 : wrap64 q = q := by unfold wrap64; omega
  have e5 : IntKind.u64.wrap p = p := by simp [IntKind.wrap, IntKind.signed, IntKind.bits]; omega
  have e6 : IntKind.u64.wrap (ad + p) = ad + p := by simp [IntKind.wrap, IntKind.signed, IntKind.bits]; omega
  have e7 : (mo = 0) = False := eq_false (by omega)
  have e8 : (mo == 0) = false := by simp; omega
  have HH : Aside0 (ad + mi * ((ix + v) / mo) = ad + p ∧ (ix + v) % mo = m) := ⟨by rw [ht, hq, hp], by rw [ht, hm]⟩
  rw [HH.out.1, HH.out.2]
  clear h0 h1 h2 h3 h4 h5 h6 h7 h8 h9 r1 r2 d1 d2 m0 m1 ht hq hp hm
  go_enter Tryd.func67, Tryd.ntmps67
  go_wp2
  go_region
  all_goals go_wp2
  all_goals (go_end0; exact ⟨rfl, _, rfl⟩)

/-- resetState. -/
theorem resetState_has {g b cap : Nat} {c : RC} {k : K} {s : St} {fp : Value} {S0 : S} {w : World} (hH : Has w g 94 (rest c k s (.slice (some ⟨b, 0, none⟩) s.n cap) fp) c.bc S0) (hfp : isByte fp = false) (hF : FilesAt w c.base b cap s.fs) (hn : s.n ≤ s.fs.length) :
    Calls Tryd.prog 50 #[.pointer (some ⟨g, 0, none⟩)] w fun e w' => e = .returned (.tuple #[]) ∧ ∃ fp', Has w' g 94 (rest c k (k.start s) (.slice (some ⟨b, 0, none⟩) s.n cap) fp') c.bc S0 ∧ PtrIs w' c.base fp' (k.start s).r.fl ∧ Kp w w' g := by
  have n0 : g < w.heap.size := hH.lt
  have q8 : w.cell? ⟨g, 15, none⟩ = some (.bool k.ds) := (hH.restc 8).trans rfl
  have p25 : w.cell? ⟨g, 25, none⟩ = some (.int .u64 s.r.ad) := (hH.restc 18).trans rfl
  have p26 : w.cell? ⟨g, 26, none⟩ = some (.int .i64 s.r.ix) := (hH.restc 19).trans rfl
  have p27 : w.cell? ⟨g, 27, none⟩ = some fp := (hH.restc 20).trans rfl
  have p28 : w.cell? ⟨g, 28, none⟩ = some (.int .i64 s.r.li) := (hH.restc 21).trans rfl
  have p29 : w.cell? ⟨g, 29, none⟩ = some (.int .i64 s.r.co) := (hH.restc 22).trans rfl
  have p30 : w.cell? ⟨g, 30, none⟩ = some (.bool s.r.st) := (hH.restc 23).trans rfl
  have p31 : w.cell? ⟨g, 31, none⟩ = some (.bool s.r.bb) := (hH.restc 24).trans rfl
  have p32 : w.cell? ⟨g, 32, none⟩ = some (.bool s.r.pe) := (hH.restc 25).trans rfl
  have p33 : w.cell? ⟨g, 33, none⟩ = some (.bool s.r.eb) := (hH.restc 26).trans rfl
  have p34 : w.cell? ⟨g, 34, none⟩ = some (.int .i64 s.r.isa) := (hH.restc 27).trans rfl
  have p35 : w.cell? ⟨g, 35, none⟩ = some (.int .i64 s.r.di) := (hH.restc 28).trans rfl
  have p36 : w.cell? ⟨g, 36, none⟩ = some (.bool s.r.es) := (hH.restc 29).trans rfl
  have p37 : w.cell? ⟨g, 37, none⟩ = some (.int .i64 s.fi) := (hH.restc 30).trans rfl
  have fz : ∀ i, w.frozen? ⟨g, i, none⟩ = false := fun i => hH.free i
  obtain ⟨W1, hW1⟩ : ∃ W1, ((((((((((((w.setCell ⟨g, 25, none⟩ (.int .u64 0)).setCell ⟨g, 26, none⟩ (.int .i64 0)).setCell ⟨g, 27, none⟩ (.pointer none)).setCell ⟨g, 28, none⟩ (.int .i64 1)).setCell ⟨g, 29, none⟩ (.int .i64 0)).setCell ⟨g, 30, none⟩ (.bool k.ds)).setCell ⟨g, 31, none⟩ (.bool false)).setCell ⟨g, 32, none⟩ (.bool false)).setCell ⟨g, 33, none⟩ (.bool false)).setCell ⟨g, 34, none⟩ (.int .i64 0)).setCell ⟨g, 35, none⟩ (.int .i64 0)).setCell ⟨g, 36, none⟩ (.bool false)).setCell ⟨g, 37, none⟩ (.int .i64 1) = W1 := ⟨_, rfl⟩
  have k1 : Kp w W1 g := hW1 ▸ ((((((((((((((Kp.refl w g).set 25 _).set 26 _).set 27 _).set 28 _).set 29 _).set 30 _).set 31 _).set 32 _).set 33 _).set 34 _).set 35 _).set 36 _).set 37 _)
  have h1 : Has W1 g 94 (rest c k (k.start s) (.slice (some ⟨b, 0, none⟩) s.n cap) (.pointer none)) c.bc S0 := by
    refine hH.all k1 (fun a ha h7 => ?_) (rest_all c k s _ fp rfl hfp) ⟨c.byte.1, c.byte.2.1⟩
    rw [← hW1, blk_set (blk_set (blk_set (blk_set (blk_set (blk_set (blk_set (blk_set (blk_set (blk_set (blk_set (blk_set (blk_set ha 25 _) 26 _) 27 _) 28 _) 29 _) 30 _) 31 _) 32 _) 33 _) 34 _) 35 _) 36 _) 37 _]
    simp [Array.setIfInBounds_append_right, h7, K.start]
  have hb : b ≠ g := by
    obtain ⟨⟨cs, e1, _⟩, _, _⟩ := hF
    obtain ⟨cs', e2⟩ := hH.blk
    exact blk_ne e1 e2 (by decide)
  have hF1 : FilesAt W1 c.base b cap s.fs := hF.kp k1 (by obtain ⟨cs', e2⟩ := hH.blk; exact ⟨_, e2⟩)
  have HU := Aside0.mk (update_calls (n := s.n) (fi := 1) hF1 hn (by decide) ((h1.restc 30).trans rfl) ((h1.restc 14).trans rfl) ((h1.restc 20).trans rfl) (h1.free 27))
  have H1 := Aside0.mk (And.intro h1 k1)
  clear h1 k1 hF1 hF hn hb hH
  go_enter Tryd.func50, Tryd.ntmps50
  go_wp2_with fail
  clear hW1
  refine HU.out.mono ?_
  rintro e w2 ⟨rfl, j, fp', hp, ⟨x, rfl⟩, rfl⟩
  have HP := Aside0.mk hp
  clear hp
  go_wp2_with fail
  go_end0
  have h2 := H1.out.1
  refine ⟨rfl, .pointer x, ?_, HP.out.kp (((Kp.refl W1 g).set 27 _).drewN j) h2.blk, (H1.out.2.set 27 _).drewN j⟩
  refine Has.drewN ?_ j
  refine h2.all ((Kp.refl W1 g).set 27 _) (fun a ha h7 => ?_) (rest_all c k _ _ (.pointer none) rfl rfl) ⟨c.byte.1, c.byte.2.1⟩
  rw [blk_set ha 27 _]
  simp [Array.setIfInBounds_append_right, h7, K.start]

end Go.Proofs.YtdepfipebogdcaaDoor.Line

/- A region whose last operations are forced, asked by numbers alone: what is listed is told by how many, not by an array. -/
namespace Go.Proofs.YtdepfipebogdcaaDoor.Fast
open Go

def readyF (md : Region.Mode) (ops : Array Oper) (k : Nat) : List Nat :=
  (List.range ops.size).filter fun i => !decide (i < k) && ((ops[i]?).map (·.after.all fun e => !Region.binds md e || (decide (e.on < k) && decide (e.on < ops.size)))).getD false
def freeF (md : Region.Mode) (ops : Array Oper) (k i : Nat) : Bool :=
  match ops[i]? with
  | none => false
  | some oi => (List.range ops.size).all fun j => j == i || decide (j < k) || match ops[j]? with
      | some oj => oj.after.any (fun e => Region.binds md e && e.on == i) || oi.apart ops oj
      | none => true
def seqF (md : Region.Mode) (ops : Array Oper) : Nat → Nat → Bool
  | 0, k => (readyF md ops k).isEmpty
  | g + 1, k => decide (readyF md ops k = [k]) && seqF md ops g (k + 1)
def headF (md : Region.Mode) (ops : Array Oper) (g : Nat) : Nat → Nat → Bool
  | 0, k => seqF md ops g k
  | f + 1, k => (readyF md ops k).contains k && freeF md ops k k && headF md ops g f (k + 1)
def tailF (md : Region.Mode) (ops : Array Oper) (n : Nat) : Bool :=
  Region.noSelect ops && decide (n < ops.size) && Region.sinkB md ops n && Region.chainB md ops n && headF md ops (ops.size - n) n 0

def Upto (ops : Array Oper) (listed : Array Bool) (k : Nat) : Prop := ∀ j, listed[j]? = if j < ops.size then some (decide (j < k)) else none
theorem Upto.t {ops : Array Oper} {listed : Array Bool} {k j : Nat} (h : Upto ops listed k) (hj : j < ops.size) : listed.getD j true = decide (j < k) := by
  have := h j
  rw [if_pos hj] at this
  simp [this]
theorem Upto.f {ops : Array Oper} {listed : Array Bool} {k : Nat} (h : Upto ops listed k) (j : Nat) : listed.getD j false = (decide (j < k) && decide (j < ops.size)) := by
  have := h j
  by_cases hj : j < ops.size
  · rw [if_pos hj] at this
    simp [this, hj]
  · rw [if_neg hj] at this
    simp [this, hj]
theorem Upto.set {ops : Array Oper} {listed : Array Bool} {k : Nat} (h : Upto ops listed k) : Upto ops (listed.setIfInBounds k true) (k + 1) := by
  intro j
  have hs : ∀ i, i < listed.size ↔ i < ops.size := fun i => by
    have := h i
    by_cases hi : i < ops.size
    · rw [if_pos hi] at this
      exact ⟨fun _ => hi, fun _ => (Array.getElem?_eq_some_iff.1 this).1⟩
    · rw [if_neg hi] at this
      exact ⟨fun h2 => absurd (Array.getElem?_eq_none_iff.1 this) (by omega), fun h2 => absurd h2 hi⟩
  by_cases hjk : k = j
  · subst hjk
    by_cases hj : k < ops.size
    · rw [if_pos hj, Array.getElem?_setIfInBounds_self_of_lt ((hs k).2 hj)]
      simp
    · rw [if_neg hj]
      rw [Array.getElem?_eq_none_iff]
      have : ¬ k < listed.size := fun h2 => hj ((hs k).1 h2)
      simp; omega
  · rw [Array.getElem?_setIfInBounds_ne hjk, h j]
    split
    · congr 1
      rw [decide_eq_decide]
      omega
    · rfl
theorem ready_eq {md : Region.Mode} {ops : Array Oper} {listed : Array Bool} {k : Nat} (h : Upto ops listed k) : Region.ready md ops listed = readyF md ops k := by
  unfold Region.ready readyF
  apply List.filter_congr
  intro i hi
  rw [h.t (List.mem_range.1 hi)]
  simp only [h.f]
theorem free_eq {md : Region.Mode} {ops : Array Oper} {listed : Array Bool} {k i : Nat} (h : Upto ops listed k) : Region.free md ops listed i = freeF md ops k i := by
  unfold Region.free freeF
  cases ops[i]? with
  | none => rfl
  | some oi =>
    simp only
    rw [Bool.eq_iff_iff]
    simp only [List.all_eq_true, List.mem_range]
    constructor
    · intro h2 j hj
      have := h2 j hj
      rwa [h.t hj] at this
    · intro h2 j hj
      rw [h.t hj]
      exact h2 j hj
theorem seq_eq {md : Region.Mode} {ops : Array Oper} : ∀ (g k : Nat) (listed : Array Bool), Upto ops listed k → Region.seqB md ops g k listed = seqF md ops g k
  | 0, k, listed, h => by simp only [Region.seqB, seqF, ready_eq h]
  | g + 1, k, listed, h => by simp only [Region.seqB, seqF, ready_eq h, seq_eq g (k + 1) _ h.set]
theorem head_eq {md : Region.Mode} {ops : Array Oper} {g : Nat} : ∀ (f k : Nat) (listed : Array Bool), Upto ops listed k → Region.lexHead md ops g f k listed = headF md ops g f k
  | 0, k, listed, h => by simp only [Region.lexHead, headF, seq_eq g k listed h]
  | f + 1, k, listed, h => by simp only [Region.lexHead, headF, ready_eq h, free_eq h, head_eq f (k + 1) _ h.set]
theorem tail_eq (md : Region.Mode) (ops : Array Oper) (n : Nat) (h : tailF md ops n = true) : Region.lexTailB md ops n = true := by
  have h0 : Upto ops (Array.replicate ops.size false) 0 := by
    intro j
    by_cases hj : j < ops.size
    · rw [if_pos hj]; simp [hj]
    · rw [if_neg hj]; simp [hj]
  unfold Region.lexTailB
  rw [head_eq n 0 _ h0]
  exact h
theorem wp_tail {P : Program} {id : Nat} {Q : Exit → Act → World → Prop} {a : Act} {w : World} {l : List Oper} (n : Nat) (hm : P.follows .mixedOrders = true) (hB : tailF .any l.toArray n = true)
    (h : wpStill P l.toArray { w with drawn := w.drawn + 1 } (fun a' => wpList P l.toArray Q (l.drop n) a' { w with drawn := w.drawn + 1 }) (l.take n) a) : (Code.region id l.toArray true).wp P Q a w :=
  wp_region_still_tail n hm (tail_eq _ _ _ hB) h
end Go.Proofs.YtdepfipebogdcaaDoor.Fast

/- A step of a line reader: the opcodes with a number. -/
namespace Go.Proofs.YtdepfipebogdcaaDoor.Line
set_option maxRecDepth 100000
open Go.RowKit Go.Proofs.YtdepfipebogdcaaDoorW.PrintWords Go.Proofs.YtdepfipebogdcaaDoorW.PrintLast Go.Proofs.YtdepfipebogdcaaDoorW.PrintMore Go.Proofs.YtdepfipebogdcaaDoor.Leb Go.Proofs.YtdepfipebogdcaaDoor.Buf Go.Proofs.YtdepfipebogdcaaDoor

theorem unum_some {l : List Int} {v n : Nat} (h : unum l = some (v, n)) : uread l = some (v, n) ∧ v < 9223372036854775808 := by
  unfold unum at h
  cases hu : uread l with
  | none => rw [hu] at h; cases h
  | some p =>
    rw [hu] at h
    simp only [Option.bind_some] at h
    split at h
    · cases h
      exact ⟨rfl, by assumption⟩
    · cases h

theorem step_5 {w : World} {g ge : Nat} {c : RC} {k : K} {s : St} {es : Array Value} {l : List Int} {v n : Nat} (hu : unum (k.at (s.p + 1)) = some (v, n)) (h : HasR w g c k s) (he : w.heap[ge]? = some (.cells es 92 (0, 0))) (hl : k.at s.p = 5 :: l) (hp : s.p + 1 + n ≤ k.eo) (hob : 5 < k.ob) :
    Calls Tryd.prog 51 #[.pointer (some ⟨g, 0, none⟩), .pointer (some ⟨ge, 0, none⟩)] w fun e w' => StepPost w g ge c k es none { s with p := s.p + 1 + n, r := { s.r with co := v } } e w' := by
  obtain ⟨b, cap, fp, hH, hF, hP⟩ := h.at_
  have hlt : s.p + 1 + n < 4294967296 := by have := h.eo; have := h.len; omega
  obtain ⟨x, rfl⟩ := hP.ptr
  have HV := Aside0.mk (uint8_has hH hl)
  have HA := Aside0.mk (adv_at (k := k) (p := s.p) (n := 1) (by omega))
  have H0 := Aside0.mk (And.intro h (And.intro he (And.intro hF hP)))
  have HP := Aside0.mk hp
  have c1 : decide (k.ob ≤ 5) = false := decide_eq_false (by omega)
  have HLT := Aside0.mk hlt
  obtain ⟨hu1, hu2⟩ := unum_some hu
  have hw : wrap64 (v : Int) = (v : Int) := by unfold wrap64; omega
  have hw2 : IntKind.i64.wrap (v : Int) = (v : Int) := by rw [IntKind.wrap_i64]; omega
  have HU := Aside0.mk (And.intro hu1 hu2)
  clear h he hF hP hl hlt hp hob hH hu hu1 hu2
  go_enter Tryd.func51, Tryd.ntmps51
  go_wp2_with fail
  go_step3
  go_wp2_with fail
  refine HV.out.mono ?_
  rintro e w1 ⟨rfl, hh, hk⟩
  rw [HA.out] at hh
  have n0 : g < w1.heap.size := hh.lt
  have q18 : w1.cell? ⟨g, 18, none⟩ = some (.int .i64 k.ob) := (hh.restc 11).trans rfl
  have HU1 := Aside0.mk (uint_ok hh (v := v) (n := n) HU.out.1 (by have := HU.out.2; omega))
  have HK := Aside0.mk hk
  clear hh hk
  go_wp2_with fail
  refine HU1.out.mono ?_
  rintro e w2 ⟨rfl, hh, hk⟩
  rw [adv_at (k := k) (p := s.p + 1) (n := n) HLT.out] at hh
  have n0 : g < w2.heap.size := hh.lt
  have q29 : w2.cell? ⟨g, 29, none⟩ = some (.int .i64 s.r.co) := (hh.restc 22).trans rfl
  have f29 := hh.free 29
  have HH := Aside0.mk (And.intro hh (HK.out.trans hk))
  clear hh hk
  go_wp2_with fail
  rw [Exit.noGoto_ret]
  go_ret
  refine step_none H0.out.1 H0.out.2.1 H0.out.2.2.1 H0.out.2.2.2 (HH.out.2.set 29 _) HP.out (fun fv hfv => ?_) rfl rfl rfl
  subst hfv
  exact HH.out.1.st1 29 _ (rest_all c k _ _ _ rfl rfl) ⟨c.byte.1, c.byte.2.1⟩ (fun a h7 => by simp [Array.setIfInBounds_append_right, h7])

theorem step_12 {w : World} {g ge : Nat} {c : RC} {k : K} {s : St} {es : Array Value} {l : List Int} {v n : Nat} (hu : unum (k.at (s.p + 1)) = some (v, n)) (h : HasR w g c k s) (he : w.heap[ge]? = some (.cells es 92 (0, 0))) (hl : k.at s.p = 12 :: l) (hp : s.p + 1 + n ≤ k.eo) (hob : 12 < k.ob) :
    Calls Tryd.prog 51 #[.pointer (some ⟨g, 0, none⟩), .pointer (some ⟨ge, 0, none⟩)] w fun e w' => StepPost w g ge c k es none { s with p := s.p + 1 + n, r := { s.r with isa := v } } e w' := by
  obtain ⟨b, cap, fp, hH, hF, hP⟩ := h.at_
  have hlt : s.p + 1 + n < 4294967296 := by have := h.eo; have := h.len; omega
  obtain ⟨x, rfl⟩ := hP.ptr
  have HV := Aside0.mk (uint8_has hH hl)
  have HA := Aside0.mk (adv_at (k := k) (p := s.p) (n := 1) (by omega))
  have H0 := Aside0.mk (And.intro h (And.intro he (And.intro hF hP)))
  have HP := Aside0.mk hp
  have c1 : decide (k.ob ≤ 12) = false := decide_eq_false (by omega)
  have HLT := Aside0.mk hlt
  obtain ⟨hu1, hu2⟩ := unum_some hu
  have hw : wrap64 (v : Int) = (v : Int) := by unfold wrap64; omega
  have hw2 : IntKind.i64.wrap (v : Int) = (v : Int) := by rw [IntKind.wrap_i64]; omega
  have HU := Aside0.mk (And.intro hu1 hu2)
  clear h he hF hP hl hlt hp hob hH hu hu1 hu2
  go_enter Tryd.func51, Tryd.ntmps51
  go_wp2_with fail
  go_step3
  go_wp2_with fail
  refine HV.out.mono ?_
  rintro e w1 ⟨rfl, hh, hk⟩
  rw [HA.out] at hh
  have n0 : g < w1.heap.size := hh.lt
  have q18 : w1.cell? ⟨g, 18, none⟩ = some (.int .i64 k.ob) := (hh.restc 11).trans rfl
  have HU1 := Aside0.mk (uint_ok hh (v := v) (n := n) HU.out.1 (by have := HU.out.2; omega))
  have HK := Aside0.mk hk
  clear hh hk
  go_wp2_with fail
  refine HU1.out.mono ?_
  rintro e w2 ⟨rfl, hh, hk⟩
  rw [adv_at (k := k) (p := s.p + 1) (n := n) HLT.out] at hh
  have n0 : g < w2.heap.size := hh.lt
  have q34 : w2.cell? ⟨g, 34, none⟩ = some (.int .i64 s.r.isa) := (hh.restc 27).trans rfl
  have f34 := hh.free 34
  have HH := Aside0.mk (And.intro hh (HK.out.trans hk))
  clear hh hk
  go_wp2_with fail
  rw [Exit.noGoto_ret]
  go_ret
  refine step_none H0.out.1 H0.out.2.1 H0.out.2.2.1 H0.out.2.2.2 (HH.out.2.set 34 _) HP.out (fun fv hfv => ?_) rfl rfl rfl
  subst hfv
  exact HH.out.1.st1 34 _ (rest_all c k _ _ _ rfl rfl) ⟨c.byte.1, c.byte.2.1⟩ (fun a h7 => by simp [Array.setIfInBounds_append_right, h7])

theorem step_4 {w : World} {g ge : Nat} {c : RC} {k : K} {s : St} {es : Array Value} {l : List Int} {v n : Nat} (hu : unum (k.at (s.p + 1)) = some (v, n)) (h : HasR w g c k s) (he : w.heap[ge]? = some (.cells es 92 (0, 0))) (hl : k.at s.p = 4 :: l) (hp : s.p + 1 + n ≤ k.eo) (hob : 4 < k.ob) :
    Calls Tryd.prog 51 #[.pointer (some ⟨g, 0, none⟩), .pointer (some ⟨ge, 0, none⟩)] w fun e w' => StepPost w g ge c k es none { ({ s with fi := (v : Int) } : St).upd with p := s.p + 1 + n } e w' := by
  obtain ⟨b, cap, fp, hH, hF, hP⟩ := h.at_
  have hlt : s.p + 1 + n < 4294967296 := by have := h.eo; have := h.len; omega
  obtain ⟨x, rfl⟩ := hP.ptr
  have HV := Aside0.mk (uint8_has hH hl)
  have HA := Aside0.mk (adv_at (k := k) (p := s.p) (n := 1) (by omega))
  have H0 := Aside0.mk (And.intro h (And.intro he (And.intro hF hP)))
  have HP := Aside0.mk hp
  have c1 : decide (k.ob ≤ 4) = false := decide_eq_false (by omega)
  have HLT := Aside0.mk hlt
  obtain ⟨hu1, hu2⟩ := unum_some hu
  have hw : wrap64 (v : Int) = (v : Int) := by unfold wrap64; omega
  have hw2 : IntKind.i64.wrap (v : Int) = (v : Int) := by rw [IntKind.wrap_i64]; omega
  have HU := Aside0.mk (And.intro hu1 hu2)
  clear h he hF hP hl hlt hp hob hH hu hu1 hu2
  go_enter Tryd.func51, Tryd.ntmps51
  go_wp2_with fail
  go_step3
  go_wp2_with fail
  refine HV.out.mono ?_
  rintro e w1 ⟨rfl, hh, hk⟩
  rw [HA.out] at hh
  have n0 : g < w1.heap.size := hh.lt
  have q18 : w1.cell? ⟨g, 18, none⟩ = some (.int .i64 k.ob) := (hh.restc 11).trans rfl
  have HU1 := Aside0.mk (uint_ok hh (v := v) (n := n) HU.out.1 (by have := HU.out.2; omega))
  have HK := Aside0.mk hk
  clear hh hk
  go_wp2_with fail
  refine HU1.out.mono ?_
  rintro e w2 ⟨rfl, hh, hk⟩
  rw [adv_at (k := k) (p := s.p + 1) (n := n) HLT.out] at hh
  have n0 : g < w2.heap.size := hh.lt
  have q37 : w2.cell? ⟨g, 37, none⟩ = some (.int .i64 s.fi) := (hh.restc 30).trans rfl
  have f37 := hh.free 37
  have hk2 := HK.out.trans hk
  have h3 : Has (w2.setCell ⟨g, 37, none⟩ (.int .i64 (v : Int))) g 94 (rest c k { s with fi := (v : Int) } (.slice (some ⟨b, 0, none⟩) s.n cap) (.pointer x)) c.bc ⟨((s.p + 1 + n : Nat) : Int), k.at (s.p + 1 + n), true⟩ := hh.st1 37 _ (rest_all c k _ _ _ rfl rfl) ⟨c.byte.1, c.byte.2.1⟩ (fun a h7 => by simp [Array.setIfInBounds_append_right, h7])
  have k3 := hk2.set 37 (.int .i64 (v : Int))
  obtain ⟨b0, cap0, fp0, hH0, _⟩ := H0.out.1.at_
  have hF3 := H0.out.2.2.1.kp k3 hH0.blk
  have HX := Aside0.mk (And.intro h3 (And.intro k3 (And.intro hF3 hH0.blk)))
  have HUP := Aside0.mk (update_calls (n := s.n) (fi := (v : Int)) hF3 H0.out.1.n (by omega) ((h3.restc 30).trans rfl) ((h3.restc 14).trans rfl) ((h3.restc 20).trans rfl) (h3.free 27))
  clear hh hk hk2 h3 k3 hF3 hH0
  go_wp2_with fail
  refine HUP.out.mono ?_
  rintro e w4 ⟨rfl, j, fq, hq, ⟨y, rfl⟩, rfl⟩
  have HQ := Aside0.mk hq
  clear hq
  go_wp2_with fail
  rw [Exit.noGoto_ret]
  go_ret
  obtain ⟨h3, k3, hF3, cs0, hg0⟩ := HX.out
  have k4 : Kp w (((w2.setCell ⟨g, 37, none⟩ (.int .i64 (v : Int))).setCell ⟨g, 27, none⟩ (.pointer y)).drewN j) g := (k3.set 27 _).drewN j
  refine ⟨rfl, H0.out.1.next (b := b) (cap := cap) (fp := .pointer y) H0.out.2.1 (Kx.of_Kp k4) HP.out H0.out.1.n ((h3.st1 27 (.pointer y) (rest_all c k _ _ _ rfl rfl) ⟨c.byte.1, c.byte.2.1⟩ (fun a h7 => by simp [Array.setIfInBounds_append_right, h7, St.upd])).drewN j) (H0.out.2.2.1.kp k4 ⟨_, hg0⟩) ?_, (k4.block ge (blk_lt H0.out.2.1) (blk_ne H0.out.2.1 hg0 (by decide))).trans H0.out.2.1, Kx.of_Kp k4⟩
  exact HQ.out.kp (((Kp.refl _ g).set 27 _).drewN j) h3.blk

end Go.Proofs.YtdepfipebogdcaaDoor.Line

/- A step of a line reader: the opcodes that advance. -/
namespace Go.Proofs.YtdepfipebogdcaaDoor.Line
set_option maxRecDepth 100000
open Go.RowKit Go.Proofs.YtdepfipebogdcaaDoorW.PrintWords Go.Proofs.YtdepfipebogdcaaDoorW.PrintLast Go.Proofs.YtdepfipebogdcaaDoorW.PrintMore Go.Proofs.YtdepfipebogdcaaDoor.Leb Go.Proofs.YtdepfipebogdcaaDoor.Buf Go.Proofs.YtdepfipebogdcaaDoor

theorem fit_some {r : Row} {v : Int} (h : fit r v = true) : 0 ≤ r.ix ∧ r.ix < 256 ∧ 0 ≤ v ∧ v ≤ 4294967296 ∧ 0 ≤ r.ad ∧ r.ad < 9223372036854775808 := by
  simp only [fit, Bool.and_eq_true, decide_eq_true_eq] at h
  omega

theorem step_2 {w : World} {g ge : Nat} {c : RC} {k : K} {s : St} {es : Array Value} {l : List Int} {v n : Nat} (hu : unum (k.at (s.p + 1)) = some (v, n)) (hk : KOk k) (hf : fit s.r (v : Int) = true) (h : HasR w g c k s) (he : w.heap[ge]? = some (.cells es 92 (0, 0))) (hl : k.at s.p = 2 :: l) (hp : s.p + 1 + n ≤ k.eo) (hob : 2 < k.ob) :
    Calls Tryd.prog 51 #[.pointer (some ⟨g, 0, none⟩), .pointer (some ⟨ge, 0, none⟩)] w fun e w' => StepPost w g ge c k es none { s with p := s.p + 1 + n, r := k.adv s.r (v : Int) } e w' := by
  obtain ⟨b, cap, fp, hH, hF, hP⟩ := h.at_
  have hlt : s.p + 1 + n < 4294967296 := by have := h.eo; have := h.len; omega
  obtain ⟨x, rfl⟩ := hP.ptr
  have HV := Aside0.mk (uint8_has hH hl)
  have HA := Aside0.mk (adv_at (k := k) (p := s.p) (n := 1) (by omega))
  have H0 := Aside0.mk (And.intro h (And.intro he (And.intro hF hP)))
  have HP := Aside0.mk hp
  have c1 : decide (k.ob ≤ 2) = false := decide_eq_false (by omega)
  have HLT := Aside0.mk hlt
  obtain ⟨hu1, hu2⟩ := unum_some hu
  have hw : wrap64 (v : Int) = (v : Int) := by unfold wrap64; omega
  have hw2 : IntKind.i64.wrap (v : Int) = (v : Int) := by rw [IntKind.wrap_i64]; omega
  have HU := Aside0.mk (And.intro hu1 hu2)
  have FT := Aside0.mk (fit_some hf)
  have KO := Aside0.mk hk
  clear h he hF hP hl hlt hp hob hH hu hu1 hu2 hf hk
  go_enter Tryd.func51, Tryd.ntmps51
  go_wp2_with fail
  go_step3
  go_wp2_with fail
  refine HV.out.mono ?_
  rintro e w1 ⟨rfl, hh, hk⟩
  rw [HA.out] at hh
  have n0 : g < w1.heap.size := hh.lt
  have q18 : w1.cell? ⟨g, 18, none⟩ = some (.int .i64 k.ob) := (hh.restc 11).trans rfl
  have HU1 := Aside0.mk (uint_ok hh (v := v) (n := n) HU.out.1 (by have := HU.out.2; omega))
  have HK := Aside0.mk hk
  clear hh hk
  go_wp2_with fail
  refine HU1.out.mono ?_
  rintro e w2 ⟨rfl, hh, hk⟩
  rw [adv_at (k := k) (p := s.p + 1) (n := n) HLT.out] at hh
  have n0 : g < w2.heap.size := hh.lt
  obtain ⟨V, hV⟩ : ∃ V : Int, (v : Int) = V := ⟨_, rfl⟩
  have HVV := Aside0.mk hV
  rw [hV] at hw hw2 FT
  have ADV := Aside0.mk (advance_calls g s.r.ad s.r.ix k.mi k.mo V w2 FT.out.1 FT.out.2.1 FT.out.2.2.1 FT.out.2.2.2.1 FT.out.2.2.2.2.1 FT.out.2.2.2.2.2 KO.out.mi0 KO.out.mi1 KO.out.mo0 KO.out.mo1 ((hh.restc 18).trans rfl) ((hh.restc 19).trans rfl) ((hh.restc 6).trans rfl) ((hh.restc 7).trans rfl) (hh.free 25) (hh.free 26))
  have HH := Aside0.mk (And.intro hh (HK.out.trans hk))
  rw [hV]
  clear hh hk hV
  go_wp2_with fail
  refine ADV.out.mono ?_
  rintro e w3 ⟨rfl, j, rfl⟩
  clear ADV FT
  go_wp2_with fail
  rw [Exit.noGoto_ret]
  go_ret
  have a1 : Has (w2.setCell ⟨g, 25, none⟩ (.int .u64 (s.r.ad + k.mi * ((s.r.ix + V) / k.mo)))) g 94 (rest c k { s with r := { s.r with ad := s.r.ad + k.mi * ((s.r.ix + V) / k.mo) } } (.slice (some ⟨b, 0, none⟩) s.n cap) (.pointer x)) c.bc ⟨((s.p + 1 + n : Nat) : Int), k.at (s.p + 1 + n), true⟩ := HH.out.1.st1 25 _ (rest_all c k _ _ _ rfl rfl) ⟨c.byte.1, c.byte.2.1⟩ (fun a h7 => by simp [Array.setIfInBounds_append_right, h7])
  have a2 := a1.st1 26 (.int .i64 ((s.r.ix + V) % k.mo)) (rest' := rest c k { s with r := k.adv s.r V } (.slice (some ⟨b, 0, none⟩) s.n cap) (.pointer x)) (rest_all c k _ _ _ rfl rfl) ⟨c.byte.1, c.byte.2.1⟩ (fun a h7 => by simp [Array.setIfInBounds_append_right, h7, K.adv])
  refine step_none H0.out.1 H0.out.2.1 H0.out.2.2.1 H0.out.2.2.2 (((HH.out.2.set 25 _).set 26 _).drewN j) HP.out (fun fv hfv => ?_) rfl rfl rfl
  subst hfv
  have a3 := a2.drewN j
  rw [← HVV.out] at a3 ⊢
  exact a3

end Go.Proofs.YtdepfipebogdcaaDoor.Line

/- A step of a line reader: the opcodes that advance. -/
namespace Go.Proofs.YtdepfipebogdcaaDoor.Line
set_option maxRecDepth 100000
open Go.RowKit Go.Proofs.YtdepfipebogdcaaDoorW.PrintWords Go.Proofs.YtdepfipebogdcaaDoorW.PrintLast Go.Proofs.YtdepfipebogdcaaDoorW.PrintMore Go.Proofs.YtdepfipebogdcaaDoor.Leb Go.Proofs.YtdepfipebogdcaaDoor.Buf Go.Proofs.YtdepfipebogdcaaDoor

theorem step_8 {w : World} {g ge : Nat} {c : RC} {k : K} {s : St} {es : Array Value} {l : List Int} (h : HasR w g c k s) (he : w.heap[ge]? = some (.cells es 92 (0, 0))) (hl : k.at s.p = 8 :: l) (hp : s.p + 1 ≤ k.eo) (hob : 8 < k.ob) (hk : KOk k) (hf : fit s.r ((255 - k.ob) / k.lr) = true) :
    Calls Tryd.prog 51 #[.pointer (some ⟨g, 0, none⟩), .pointer (some ⟨ge, 0, none⟩)] w fun e w' => StepPost w g ge c k es none { s with p := s.p + 1, r := k.adv s.r ((255 - k.ob) / k.lr) } e w' := by
  obtain ⟨b, cap, fp, hH, hF, hP⟩ := h.at_
  have hlt : s.p + 1 < 4294967296 := by have := h.eo; have := h.len; omega
  obtain ⟨x, rfl⟩ := hP.ptr
  have HV := Aside0.mk (uint8_has hH hl)
  have HA := Aside0.mk (adv_at (k := k) (p := s.p) (n := 1) (by omega))
  have H0 := Aside0.mk (And.intro h (And.intro he (And.intro hF hP)))
  have HP := Aside0.mk hp
  have c1 : decide (k.ob ≤ 8) = false := decide_eq_false (by omega)
  have HLT := Aside0.mk hlt
  have FT := Aside0.mk (fit_some hf)
  have KO := Aside0.mk hk
  obtain ⟨D, hD⟩ : ∃ D : Int, 255 - k.ob = D := ⟨_, rfl⟩
  have hD0 : 0 ≤ D := by have := hk.ob1; omega
  have hD1 : D < 256 := by have := hk.ob0; omega
  obtain ⟨V, hV⟩ : ∃ V : Int, D / k.lr = V := ⟨_, rfl⟩
  have hwD : wrap64 (255 - k.ob) = D := by unfold wrap64; omega
  have hwD2 : IntKind.i64.wrap (255 - k.ob) = D := by rw [IntKind.wrap_i64]; omega
  have hq : D.tdiv k.lr = V := by rw [Int.tdiv_eq_ediv_of_nonneg hD0]; exact hV
  have hV0 : 0 ≤ V := by rw [← hV]; exact Int.ediv_nonneg hD0 (by have := hk.lr0; omega)
  have hV1 : V < 256 := by have := Int.ediv_le_self k.lr hD0; omega
  have hwV : wrap64 V = V := by unfold wrap64; omega
  have z1 : (k.lr == 0) = false := by have := hk.lr0; simp; omega
  have z2 : (k.lr = 0) = False := eq_false (by have := hk.lr0; omega)
  rw [hD, hV] at FT
  have HVV : Aside0 ((255 - k.ob) / k.lr = V) := ⟨by rw [hD, hV]⟩
  rw [HVV.out]
  clear h he hF hP hl hlt hp hob hH hf hk hD hV hD0 hD1 hV0 hV1
  go_enter Tryd.func51, Tryd.ntmps51
  go_wp2_with fail
  go_step3
  go_wp2_with fail
  refine HV.out.mono ?_
  rintro e w1 ⟨rfl, hh, hk⟩
  rw [HA.out] at hh
  have n0 : g < w1.heap.size := hh.lt
  have q18 : w1.cell? ⟨g, 18, none⟩ = some (.int .i64 k.ob) := (hh.restc 11).trans rfl
  have q17 : w1.cell? ⟨g, 17, none⟩ = some (.int .i64 k.lr) := (hh.restc 10).trans rfl
  have HH : Aside0 (Has w1.drew g 94 (rest c k s (.slice (some ⟨b, 0, none⟩) s.n cap) (.pointer x)) c.bc ⟨((s.p + 1 : Nat) : Int), k.at (s.p + 1), true⟩ ∧ Kp w w1.drew g) := ⟨hh.drewN 1, hk.drewN 1⟩
  clear hh hk
  go_wp2_with fail
  go_still_tail 11, (by kernel_rfl)
  change wpList _ _ _ _ _ w1.drew
  revert HH
  generalize w1.drew = w2
  intro HH
  clear q17 q18 n0 w1
  have hh := HH.out.1
  have ADV := Aside0.mk (advance_calls g s.r.ad s.r.ix k.mi k.mo V w2 FT.out.1 FT.out.2.1 FT.out.2.2.1 FT.out.2.2.2.1 FT.out.2.2.2.2.1 FT.out.2.2.2.2.2 KO.out.mi0 KO.out.mi1 KO.out.mo0 KO.out.mo1 ((hh.restc 18).trans rfl) ((hh.restc 19).trans rfl) ((hh.restc 6).trans rfl) ((hh.restc 7).trans rfl) (hh.free 25) (hh.free 26))
  have n0 : g < w2.heap.size := hh.lt
  clear hh
  go_wp2_with fail
  rw [hwV]
  refine ADV.out.mono ?_
  rintro e w3 ⟨rfl, j, rfl⟩
  clear ADV FT
  go_wp2_with fail
  rw [Exit.noGoto_ret]
  go_ret
  have a1 : Has (w2.setCell ⟨g, 25, none⟩ (.int .u64 (s.r.ad + k.mi * ((s.r.ix + V) / k.mo)))) g 94 (rest c k { s with r := { s.r with ad := s.r.ad + k.mi * ((s.r.ix + V) / k.mo) } } (.slice (some ⟨b, 0, none⟩) s.n cap) (.pointer x)) c.bc ⟨((s.p + 1 : Nat) : Int), k.at (s.p + 1), true⟩ := HH.out.1.st1 25 _ (rest_all c k _ _ _ rfl rfl) ⟨c.byte.1, c.byte.2.1⟩ (fun a h7 => by simp [Array.setIfInBounds_append_right, h7])
  have a2 := a1.st1 26 (.int .i64 ((s.r.ix + V) % k.mo)) (rest' := rest c k { s with r := k.adv s.r V } (.slice (some ⟨b, 0, none⟩) s.n cap) (.pointer x)) (rest_all c k _ _ _ rfl rfl) ⟨c.byte.1, c.byte.2.1⟩ (fun a h7 => by simp [Array.setIfInBounds_append_right, h7, K.adv])
  refine step_none H0.out.1 H0.out.2.1 H0.out.2.2.1 H0.out.2.2.2 (((HH.out.2.set 25 _).set 26 _).drewN j) HP.out (fun fv hfv => ?_) rfl rfl rfl
  subst hfv
  have a3 := a2.drewN j
  exact a3
end Go.Proofs.YtdepfipebogdcaaDoor.Line
