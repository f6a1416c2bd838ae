-- Printed by a program of this session (mkprint.py over the kit's print.py)
import Derived.Test.YtnooghnbohjmlaaDoorWTab
import Derived.Laws.Tables
import Derived.Test.YtnooghnbohjmlaaDoorMa
import Derived.Test.YtnooghnbohjmlaaDoorMc
namespace Go.Proofs.YtnooghnbohjmlaaDoor.PPl
open Go.RowKit Go.Proofs.YtnooghnbohjmlaaDoorW.PrintWords Go.Proofs.YtnooghnbohjmlaaDoorW.PrintLast Go.Proofs.YtnooghnbohjmlaaDoorW.PrintMore
attribute [local go_sem] max2_int max_two   -- for this text's walks alone
set_option linter.unusedVariables false
set_option linter.unusedSimpArgs false

theorem far15 {W : World} {g o0 o1 o2 o3 o4 o5 o6 o7 o8 o9 o10 o11 o12 o13 o14 : Nat} {v0 v1 v2 v3 v4 v5 v6 v7 v8 v9 v10 v11 v12 v13 v14 : Value} {q : Addr} (h : q.block ≠ g) : (((((((((((((((W.setCell ⟨g, o0, none⟩ v0).setCell ⟨g, o1, none⟩ v1).setCell ⟨g, o2, none⟩ v2).setCell ⟨g, o3, none⟩ v3).setCell ⟨g, o4, none⟩ v4).setCell ⟨g, o5, none⟩ v5).setCell ⟨g, o6, none⟩ v6).setCell ⟨g, o7, none⟩ v7).setCell ⟨g, o8, none⟩ v8).setCell ⟨g, o9, none⟩ v9).setCell ⟨g, o10, none⟩ v10).setCell ⟨g, o11, none⟩ v11).setCell ⟨g, o12, none⟩ v12).setCell ⟨g, o13, none⟩ v13).setCell ⟨g, o14, none⟩ v14).cell? q = W.cell? q := by
  simp only [cell_far (p := ⟨g, _, none⟩) h]
theorem qH {w w' : World} {p : Addr} {v : Value} (hb : Below w.heap.size w w') (h : w.cell? p = some v) : w'.cell? p = some v := (hb.cell (World.block_lt_of_cell? _ _ h)).trans h
/-! ### laws_FnLineFlags: function 5 -/
mutual
def laws_FnLineFlags.j0 : Nat → Bool → Bool → Bool → Bool → Int → Bool → Option (Bool)
  | 0, _, _, _, _, _, _ => none
  | k + 1, x0, x1, x2, x3, x4, x24 => if x24 = true then (some true) else ((some (([x0, x1, x2, x3] : List Bool) : List Bool)).bind fun y299 => (laws_FnLineFlags.l0 k x0 x1 x2 x3 x4 (([] : List Int)) y299 (y299.length : Int) 0))
def laws_FnLineFlags.l0 : Nat → Bool → Bool → Bool → Bool → Int → List Int → List Bool → Int → Int → Option (Bool)
  | 0, _, _, _, _, _, _, _, _, _ => none
  | k + 1, x0, x1, x2, x3, x4, x11, x30, x31, x32 => if x32 < x31 then (if 0 ≤ x32 then (if x32 < (x30.length : Int) then (if rdOf false x30 x32 = true then ((some (([7, 10, 11, 6] : List Int) : List Int)).bind fun y303 => (if x32 < (y303.length : Int) then (if x11.length < 140737488355328 then (laws_FnLineFlags.l0 k x0 x1 x2 x3 x4 (x11 ++ [rd y303 x32]) x30 x31 (wrap64 (x32 + 1))) else (none)) else (none))) else (laws_FnLineFlags.l0 k x0 x1 x2 x3 x4 x11 x30 x31 (wrap64 (x32 + 1)))) else (none)) else (none)) else ((spec_Unsigned.f k (IntKind.u64.wrap (x4)) 0).bind fun t310 => ((some (([0, (wrap64 ((t310.length : Int) + 1)) % 256, 4] : List Int) : List Int)).bind fun y313 => (if x11.length + y313.length < 140737488355328 then ((some (x11 ++ y313 : List Int)).bind fun y316 => (if y316.length + t310.length < 140737488355328 then ((some (y316 ++ t310 : List Int)).bind fun y319 => ((laws_usual.f).bind fun bt322 => ((some (([1, 1] : List Int) : List Int)).bind fun y327 => (if y319.length + y327.length < 140737488355328 then ((laws_rowsOf.f k bt322.1 bt322.2.1 bt322.2.2.1 bt322.2.2.2.1 bt322.2.2.2.2 0 (y319 ++ y327) 3).bind fun bt333 => (if bt333.2 = true then (if 0 < (bt333.1.length : Int) then (if 1 < (bt333.1.length : Int) then (if (((rd_T38 bt333.1 0).f6) == x0) = true then (if (((rd_T38 bt333.1 0).f7) == x1) = true then (if (((rd_T38 bt333.1 0).f8) == x2) = true then (if (((rd_T38 bt333.1 0).f5) == x3) = true then (if ((rd_T38 bt333.1 0).f10) = x4 then (if ((rd_T38 bt333.1 1).f6 = true) then (some false) else (if ((rd_T38 bt333.1 1).f7 = true) then (some false) else (if ((rd_T38 bt333.1 1).f8 = true) then (some false) else (if (((rd_T38 bt333.1 1).f5) == x3) = true then (some (((rd_T38 bt333.1 1).f10) == 0)) else (some false))))) else (some false)) else (some false)) else (some false)) else (some false)) else (some false)) else (none)) else (none)) else (some false))) else (none))))) else (none))) else (none))))
end
def laws_FnLineFlags.f (k : Nat) (a0 : Bool) (a1 : Bool) (a2 : Bool) (a3 : Bool) (a4 : Int) : Option (Bool) := if a4 < 0 then (laws_FnLineFlags.j0 k a0 a1 a2 a3 a4 true) else (laws_FnLineFlags.j0 k a0 a1 a2 a3 a4 (decide (a4 > 2147483648)))
theorem laws_FnLineFlags.mono_l : ∀ k, (∀ y0 y1 y2 y3 y4 y5, LeO (laws_FnLineFlags.j0 k y0 y1 y2 y3 y4 y5) (laws_FnLineFlags.j0 (k + 1) y0 y1 y2 y3 y4 y5)) ∧ (∀ y0 y1 y2 y3 y4 y5 y6 y7 y8, LeO (laws_FnLineFlags.l0 k y0 y1 y2 y3 y4 y5 y6 y7 y8) (laws_FnLineFlags.l0 (k + 1) y0 y1 y2 y3 y4 y5 y6 y7 y8))
  | 0 => ⟨fun _ _ _ _ _ _ r h => by simp [laws_FnLineFlags.j0] at h, fun _ _ _ _ _ _ _ _ _ r h => by simp [laws_FnLineFlags.l0] at h⟩
  | k + 1 => by
    obtain ⟨ih0, ih1⟩ := laws_FnLineFlags.mono_l k
    refine ⟨?_, ?_⟩
    · intro y0 y1 y2 y3 y4 y5
      unfold laws_FnLineFlags.j0
      repeat' first
      | (with_reducible exact ih0 _ _ _ _ _ _)
      | (with_reducible exact ih1 _ _ _ _ _ _ _ _ _)
      | (with_reducible exact laws_rowsOf.mono _ _ _ _ _ _ _ _ _)
      | (with_reducible exact spec_Unsigned.mono _ _ _)
      | (with_reducible exact LeO.refl _)
      | (with_reducible exact LeO.none _)
      | (with_reducible refine LeO.ite ?_ ?_)
      | (with_reducible refine LeO.bind ?_ (fun _ => ?_))
      | exact ih0 _ _ _ _ _ _
      | exact ih1 _ _ _ _ _ _ _ _ _
      | exact laws_rowsOf.mono _ _ _ _ _ _ _ _ _
      | exact spec_Unsigned.mono _ _ _
      | exact LeO.none _
      | refine LeO.ite ?_ ?_
      | refine LeO.bind ?_ (fun _ => ?_)
    · intro y0 y1 y2 y3 y4 y5 y6 y7 y8
      unfold laws_FnLineFlags.l0
      repeat' first
      | (with_reducible exact ih0 _ _ _ _ _ _)
      | (with_reducible exact ih1 _ _ _ _ _ _ _ _ _)
      | (with_reducible exact laws_rowsOf.mono _ _ _ _ _ _ _ _ _)
      | (with_reducible exact spec_Unsigned.mono _ _ _)
      | (with_reducible exact LeO.refl _)
      | (with_reducible exact LeO.none _)
      | (with_reducible refine LeO.ite ?_ ?_)
      | (with_reducible refine LeO.bind ?_ (fun _ => ?_))
      | exact ih0 _ _ _ _ _ _
      | exact ih1 _ _ _ _ _ _ _ _ _
      | exact laws_rowsOf.mono _ _ _ _ _ _ _ _ _
      | exact spec_Unsigned.mono _ _ _
      | exact LeO.none _
      | refine LeO.ite ?_ ?_
      | refine LeO.bind ?_ (fun _ => ?_)
theorem laws_FnLineFlags.mono : ∀ a0 a1 a2 a3 a4 k, LeO (laws_FnLineFlags.f k a0 a1 a2 a3 a4) (laws_FnLineFlags.f (k + 1) a0 a1 a2 a3 a4) := by
  intro a0 a1 a2 a3 a4 k
  obtain ⟨ih0, ih1⟩ := laws_FnLineFlags.mono_l k
  unfold laws_FnLineFlags.f
  repeat' first
      | (with_reducible exact ih0 _ _ _ _ _ _)
      | (with_reducible exact ih1 _ _ _ _ _ _ _ _ _)
      | (with_reducible exact laws_rowsOf.mono _ _ _ _ _ _ _ _ _)
      | (with_reducible exact spec_Unsigned.mono _ _ _)
      | (with_reducible exact LeO.refl _)
      | (with_reducible exact LeO.none _)
      | (with_reducible refine LeO.ite ?_ ?_)
      | (with_reducible refine LeO.bind ?_ (fun _ => ?_))
      | exact ih0 _ _ _ _ _ _
      | exact ih1 _ _ _ _ _ _ _ _ _
      | exact laws_rowsOf.mono _ _ _ _ _ _ _ _ _
      | exact spec_Unsigned.mono _ _ _
      | exact LeO.none _
      | refine LeO.ite ?_ ?_
      | refine LeO.bind ?_ (fun _ => ?_)
def heldF (ad337 : Addr) (t333 : List S38) (w' : World) : Prop := w'.cell? ad337 = some (.int .u64 ((rd_T38 t333 0).f0)) ∧ w'.cell? ⟨ad337.block, ad337.off + 1, none⟩ = some (.int .i64 ((rd_T38 t333 0).f1)) ∧ w'.cell? ⟨ad337.block, ad337.off + 2, none⟩ = some (.bool ((rd_T38 t333 0).f2.f0)) ∧ w'.cell? ⟨ad337.block, ad337.off + 3, none⟩ = some (.string ((rd_T38 t333 0).f2.f1)) ∧ w'.cell? ⟨ad337.block, ad337.off + 4, none⟩ = some (.int .u64 ((rd_T38 t333 0).f2.f2)) ∧ w'.cell? ⟨ad337.block, ad337.off + 5, none⟩ = some (.int .i64 ((rd_T38 t333 0).f2.f3)) ∧ w'.cell? ⟨ad337.block, ad337.off + 6, none⟩ = some (.int .i64 ((rd_T38 t333 0).f3)) ∧ w'.cell? ⟨ad337.block, ad337.off + 7, none⟩ = some (.int .i64 ((rd_T38 t333 0).f4)) ∧ w'.cell? ⟨ad337.block, ad337.off + 8, none⟩ = some (.bool ((rd_T38 t333 0).f5)) ∧ w'.cell? ⟨ad337.block, ad337.off + 9, none⟩ = some (.bool ((rd_T38 t333 0).f6)) ∧ w'.cell? ⟨ad337.block, ad337.off + 10, none⟩ = some (.bool ((rd_T38 t333 0).f7)) ∧ w'.cell? ⟨ad337.block, ad337.off + 11, none⟩ = some (.bool ((rd_T38 t333 0).f8)) ∧ w'.cell? ⟨ad337.block, ad337.off + 12, none⟩ = some (.int .i64 ((rd_T38 t333 0).f9)) ∧ w'.cell? ⟨ad337.block, ad337.off + 13, none⟩ = some (.int .i64 ((rd_T38 t333 0).f10)) ∧ w'.cell? ⟨ad337.block, ad337.off + 14, none⟩ = some (.bool ((rd_T38 t333 0).f11)) ∧ w'.cell? ⟨ad337.block, ad337.off + 15, none⟩ = some (.int .u64 ((rd_T38 t333 1).f0)) ∧ w'.cell? ⟨ad337.block, ad337.off + 15 + 1, none⟩ = some (.int .i64 ((rd_T38 t333 1).f1)) ∧ w'.cell? ⟨ad337.block, ad337.off + 15 + 2, none⟩ = some (.bool ((rd_T38 t333 1).f2.f0)) ∧ w'.cell? ⟨ad337.block, ad337.off + 15 + 3, none⟩ = some (.string ((rd_T38 t333 1).f2.f1)) ∧ w'.cell? ⟨ad337.block, ad337.off + 15 + 4, none⟩ = some (.int .u64 ((rd_T38 t333 1).f2.f2)) ∧ w'.cell? ⟨ad337.block, ad337.off + 15 + 5, none⟩ = some (.int .i64 ((rd_T38 t333 1).f2.f3)) ∧ w'.cell? ⟨ad337.block, ad337.off + 15 + 6, none⟩ = some (.int .i64 ((rd_T38 t333 1).f3)) ∧ w'.cell? ⟨ad337.block, ad337.off + 15 + 7, none⟩ = some (.int .i64 ((rd_T38 t333 1).f4)) ∧ w'.cell? ⟨ad337.block, ad337.off + 15 + 8, none⟩ = some (.bool ((rd_T38 t333 1).f5)) ∧ w'.cell? ⟨ad337.block, ad337.off + 15 + 9, none⟩ = some (.bool false) ∧ w'.cell? ⟨ad337.block, ad337.off + 15 + 10, none⟩ = some (.bool false) ∧ w'.cell? ⟨ad337.block, ad337.off + 15 + 11, none⟩ = some (.bool false) ∧ w'.cell? ⟨ad337.block, ad337.off + 15 + 12, none⟩ = some (.int .i64 ((rd_T38 t333 1).f9)) ∧ w'.cell? ⟨ad337.block, ad337.off + 15 + 13, none⟩ = some (.int .i64 ((rd_T38 t333 1).f10)) ∧ w'.cell? ⟨ad337.block, ad337.off + 15 + 14, none⟩ = some (.bool ((rd_T38 t333 1).f11))
theorem heldF_of {ad337 : Addr} {t333 : List S38} {w w' : World} (e : ∀ q : Addr, q.block = ad337.block → w'.cell? q = w.cell? q) (h : heldF ad337 t333 w) : heldF ad337 t333 w' := by
  obtain ⟨h0, h1, h2, h3, h4, h5, h6, h7, h8, h9, h10, h11, h12, h13, h14, h15, h16, h17, h18, h19, h20, h21, h22, h23, h24, h25, h26, h27, h28, h29⟩ := h
  exact ⟨(e _ (by rfl)).trans h0, (e _ (by rfl)).trans h1, (e _ (by rfl)).trans h2, (e _ (by rfl)).trans h3, (e _ (by rfl)).trans h4, (e _ (by rfl)).trans h5, (e _ (by rfl)).trans h6, (e _ (by rfl)).trans h7, (e _ (by rfl)).trans h8, (e _ (by rfl)).trans h9, (e _ (by rfl)).trans h10, (e _ (by rfl)).trans h11, (e _ (by rfl)).trans h12, (e _ (by rfl)).trans h13, (e _ (by rfl)).trans h14, (e _ (by rfl)).trans h15, (e _ (by rfl)).trans h16, (e _ (by rfl)).trans h17, (e _ (by rfl)).trans h18, (e _ (by rfl)).trans h19, (e _ (by rfl)).trans h20, (e _ (by rfl)).trans h21, (e _ (by rfl)).trans h22, (e _ (by rfl)).trans h23, (e _ (by rfl)).trans h24, (e _ (by rfl)).trans h25, (e _ (by rfl)).trans h26, (e _ (by rfl)).trans h27, (e _ (by rfl)).trans h28, (e _ (by rfl)).trans h29⟩
theorem heldF_below {ad337 : Addr} {t333 : List S38} {w w' : World} (hb : Below w.heap.size w w') (h : heldF ad337 t333 w) : heldF ad337 t333 w' := heldF_of (fun q hq => hb.cell (by rw [hq]; exact World.block_lt_of_cell? _ _ h.1)) h
theorem srow_ {P : Program} {ops : Array Oper} {oi : Oper} {a : Act} {w : World} {K : Act → World → Prop} {Q : Exit → Act → World → Prop} (hw : Region.wanted oi (yielded ops a.tmps) = true) (hN : oi.dst = none) (ty : TypeId) (x y : Operand) (ho : oi.op = .store ty x y)
    (g : Nat) (cells : Array Value) (hx : a.eval x = .pointer (some ⟨g, 0, none⟩)) (hy : a.eval y = .agg cells) (t : TypeId) (old : Array Value) (hg : w.heap[g]? = some (.cells old t (0, 0))) (hi : (P.info? ty).map (·.size) = some cells.size)
    (hold : old.size = cells.size) (h1 : cells.all (·.oneCell') = true) (h : K a (w.setRow g cells)) : if Region.wanted oi (yielded ops a.tmps) = true then Oper.wp P oi a w K Q else K (a.put none undef) w := by
  rw [if_pos hw]
  refine wp_store_row ty x y ho g cells hx hy t old hg hi hold h1 ?_
  rw [hN]
  exact h
theorem below_srow {B g : Nat} {w0 w : World} (hb : Below B w0 w) (hBg : B ≤ g) (cs : Array Value) : Below B w0 (w.setRow g cs) := ⟨hb.os, hb.tape, hb.output, by rw [size_setRow]; exact hb.size, fun k hk => (setRow_other w g k cs (by omega)).trans (hb.block k hk)⟩
theorem heldF_row {ad337 : Addr} {t333 : List S38} {W : World} {g : Nat} {cs : Array Value} (n : ad337.block ≠ g) (h : heldF ad337 t333 W) : heldF ad337 t333 (W.setRow g cs) := heldF_of (fun q hq => cell_setRow_other W g cs q (by rw [hq]; exact n)) h
def laws_FnLineFlags.T15 : Bool × List (List Nat × List Nat) := (true, [([], []), ([0], [0]), ([1], [1]), ([], []), ([3], [3]), ([4], [4]), ([], []), ([], []), ([6, 2, 0, 1, 2, 6, 7], [2, 6]), ([7, 5, 8, 0, 1, 2, 3, 4, 5, 6, 7, 8], [5, 7])])
def laws_FnLineFlags.B15 : List Nat := [0, 1, 3, 0, 8, 24, 0, 0, 199, 511]
theorem laws_FnLineFlags.tab15 : rtab .any (opsOf Tryd.f5 15) = laws_FnLineFlags.T15 := by kernel_rfl
theorem laws_FnLineFlags.bits15 : waitsOk laws_FnLineFlags.T15.2 laws_FnLineFlags.B15 = true := by kernel_rfl
set_option maxHeartbeats 8000000 in
set_option maxRecDepth 100000 in
theorem laws_FnLineFlags.calls (k : Nat) (a0 : Bool) (a1 : Bool) (a2 : Bool) (a3 : Bool) (a4 : Int) (r : Bool) (w : World) (h : laws_FnLineFlags.f k a0 a1 a2 a3 a4 = some r) (hG : Glob w) (hrt : r = true) :
    Calls Tryd.prog 5 #[.bool a0, .bool a1, .bool a2, .bool a3, .int .i64 a4] w fun e w' => e = .returned (.bool r) ∧ Below w.heap.size w w' := by
  have HGL := Aside0.mk hG
  clear hG
  have HRT := Aside0.mk hrt
  clear hrt
  have hu38 := Tryd.underlying38
  have HB := Aside0.mk (Below.refl w.heap.size w)
  have H : (if a4 < 0 then (laws_FnLineFlags.j0 k a0 a1 a2 a3 a4 true) else (laws_FnLineFlags.j0 k a0 a1 a2 a3 a4 (decide (a4 > 2147483648)))) = some r := h
  clear h
  have HC6 := Aside0.mk H
  clear H
  go_enter Tryd.func5, Tryd.ntmps5
  go_upto_region 1 with (fail)
  go_cut [24] (fun v24 wc => ∃ (kq : Nat) (x24_5 : Bool), v24 = .bool x24_5 ∧ Aside0 (laws_FnLineFlags.j0 kq a0 a1 a2 a3 a4 x24_5 = some r) ∧ Aside0 (kq ≤ k) ∧ Aside0 (Below w.heap.size w wc))
  case first =>
    have H := HC6.out
    clear HC6
    by_cases c7 : a4 < 0
    · rw [if_pos c7] at H
      have c7b0 : decide (a4 < 0) = true := decide_eq_true c7
      clear c7
      (first | rw [c7b0] | (simp only [i64_w, i32_w]; rw [c7b0]) | skip)
      have H' := Aside0.mk H
      clear H
      go_wp2
      go_meet
      case rel => exact ⟨_, (true), (by first | rfl | (simp; done) | (simp [*]; done)), H', ⟨by first | omega | exact Nat.le_refl _⟩, ⟨by repeat (first | (with_reducible first | exact HB.out | apply below_alloc | apply pw_below_drewN | apply below_drew1) | exact HB.out)⟩⟩
    · rw [if_neg c7] at H
      have c7b0 : decide (a4 < 0) = false := decide_eq_false c7
      clear c7
      (first | rw [c7b0] | (simp only [i64_w, i32_w]; rw [c7b0]) | skip)
      have H' := Aside0.mk H
      clear H
      go_wp2
      go_meet
      case rel => exact ⟨_, (decide (a4 > 2147483648)), (by first | rfl | (simp; done) | (simp [*]; done)), H', ⟨by first | omega | exact Nat.le_refl _⟩, ⟨by repeat (first | (with_reducible first | exact HB.out | apply below_alloc | apply pw_below_drewN | apply below_drew1) | exact HB.out)⟩⟩
  case rest =>
    clear HC6
    try clear p2
    try clear c5
    try clear c7
    try clear c7b0
    obtain ⟨kq, x24_5, rfl, HA, HJ5, HB⟩ := hcut
    cases kq with
    | zero => exact absurd HA.out (by simp [laws_FnLineFlags.j0])
    | succ kj5 =>
      have H := HA.out
      clear HA
      simp only [laws_FnLineFlags.j0] at H
      by_cases c8 : x24_5 = true
      · subst c8
        have H1 : (some true) = some r := by rw [if_pos rfl] at H; exact H
        clear H
        have H := H1
        clear H1
        obtain rfl := Option.some.inj H
        go_wp2
        go_ret
        exact ⟨by first | rfl | (simp [errW_none, errW_some] <;> rfl) | (simp [*, errW_none, errW_some] <;> rfl), by repeat (first | (with_reducible first | exact HB.out | apply below_alloc | apply pw_below_drewN | apply below_drew1) | exact HB.out)⟩
      · replace c8 := Bool.eq_false_iff.mpr c8
        subst c8
        have H1 : ((some (([a0, a1, a2, a3] : List Bool) : List Bool)).bind fun y299 => (laws_FnLineFlags.l0 kj5 a0 a1 a2 a3 a4 (([] : List Int)) y299 (y299.length : Int) 0)) = some r := by rw [if_neg (show ¬ (false = true) by decide)] at H; exact H
        clear H
        have H := H1
        clear H1
        obtain ⟨y296, hy296⟩ : ∃ y_ : List Int, y_ = (([] : List Int)) := ⟨_, rfl⟩
        replace H : ((some (([a0, a1, a2, a3] : List Bool) : List Bool)).bind fun y299 => (laws_FnLineFlags.l0 kj5 a0 a1 a2 a3 a4 y296 y299 (y299.length : Int) 0)) = some r := by first | (rw [hy296]; with_reducible exact H) | (have H2_ := (Option.bind_some _ _).symm.trans H; rw [hy296]; with_reducible exact H2_) | (have H2_ := (Option.bind_some _ _).symm.trans H; with_reducible exact H2_) | with_reducible exact H | (rw [hy296]; exact H) | exact H
        have Ny296 := Aside0.mk hy296
        clear hy296
        obtain ⟨y299, hy299⟩ : ∃ y_ : List Bool, y_ = (([a0, a1, a2, a3] : List Bool)) := ⟨_, rfl⟩
        replace H : (laws_FnLineFlags.l0 kj5 a0 a1 a2 a3 a4 y296 y299 (y299.length : Int) 0) = some r := by first | (rw [hy299]; with_reducible exact H) | (have H2_ := (Option.bind_some _ _).symm.trans H; rw [hy299]; with_reducible exact H2_) | (have H2_ := (Option.bind_some _ _).symm.trans H; with_reducible exact H2_) | with_reducible exact H | (rw [hy299]; exact H) | exact H
        have Ny299 := Aside0.mk hy299
        clear hy299
        have H' := Aside0.mk H
        clear H
        go_wp2_with (first | ((with_reducible refine gate_dst (N := 25) rfl ?_); refine Kd.R_lit (Kd.int .u8) _ 5 ?hg (N := 25) ?hd (xs := ([] : List Int)) (inner := []) (ok := fun _ => True) (okp := fun _ => True) ?hr ?hp (fun _ hk => hk) trivial (Below.refl _ _) (Nat.le_refl _) (by simp) ?_; (case hd => rfl); (case hg => rfl); (case hr => first | (go_simp; done) | (go_simp; rfl)); (case hp => exact (Reps.none _ _)); intro v297 w9 ho10 hb hg_ hnew_; clear hg_ hnew_; (first | rw [← Ny296.out] at ho10 | (simp only [Int.reduceToNat] at ho10; rw [← Ny296.out] at ho10)); have n0_ := Aside0.mk (Kd.R_lower ho10 (below_size qB)); have n1_ := Aside0.mk (below_step qB hb); clear HB; have HO298 := n0_; have HB := n1_; clear n0_ n1_; clear hb ho10) | ((with_reducible refine gate_dst (N := 30) rfl ?_); refine Kd.R_lit Kd.bool _ 4 ?hg (N := 30) ?hd (xs := ([a0, a1, a2, a3] : List Bool)) (inner := [.bool a0, .bool a1, .bool a2, .bool a3]) (ok := fun _ => True) (okp := fun _ => True) ?hr ?hp (fun _ hk => hk) trivial (Below.refl _ _) (Nat.le_refl _) (by simp) ?_; (case hd => rfl); (case hg => rfl); (case hr => first | (go_simp; done) | (go_simp; rfl)); (case hp => exact (Reps.one (show Kd.M Kd.bool _ _ _ a0 [.bool a0] from rfl) (Reps.one (show Kd.M Kd.bool _ _ _ a1 [.bool a1] from rfl) (Reps.one (show Kd.M Kd.bool _ _ _ a2 [.bool a2] from rfl) (Reps.one (show Kd.M Kd.bool _ _ _ a3 [.bool a3] from rfl) (Reps.none _ _)))))); intro v300 w11 ho12 hb hg_ hnew_; clear hg_ hnew_; (first | rw [← Ny299.out] at ho12 | (simp only [Int.reduceToNat] at ho12; rw [← Ny299.out] at ho12)); have n0_ := Aside0.mk (Kd.R_below (qR HO298.out) hb); have n1_ := Aside0.mk (Kd.R_lower ho12 (below_size qB)); have n2_ := Aside0.mk (below_step qB hb); clear HO298; clear HB; have HO298 := n0_; have HO301 := n1_; have HB := n2_; clear n0_ n1_ n2_; clear hb ho12; obtain ⟨Ao13, co13, eo13⟩ := Kd.R_slice HO301.out; subst eo13))
        go_loopg [11, 32] kj5 (fun kq v11 v32 w' => ∃ (x11_2 : List Int) (x32_2 : Int), v32 = .int .i64 x32_2 ∧ Aside0 (laws_FnLineFlags.l0 kq a0 a1 a2 a3 a4 x11_2 y299 (y299.length : Int) x32_2 = some r) ∧ Aside0 (kq ≤ kj5) ∧ Aside0 (Kd.R (Kd.int .u8) 5 w' w.heap.size (fun _ => True) v11 x11_2) ∧ Aside0 (Kd.R Kd.bool 4 w' w.heap.size (fun _ => True) (.slice Ao13 y299.length co13) y299) ∧ Aside0 (Below w.heap.size w w'))
        case atStart => exact ⟨(y296), (0), (by first | rfl | (simp; done) | (simp [*]; done)), H', ⟨Nat.le_refl _⟩, ⟨by (with_reducible repeat (first | apply Kd.R_alloc | apply Kd.R_drewN | apply Kd.R_drew)); exact HO298.out⟩, ⟨by (with_reducible repeat (first | apply Kd.R_alloc | apply Kd.R_drewN | apply Kd.R_drew)); exact HO301.out⟩, ⟨by repeat (first | (with_reducible first | exact HB.out | apply below_alloc | apply pw_below_drewN | apply below_drew1) | exact HB.out)⟩⟩
        case round =>
          clear H'
          try clear p2
          try clear c5
          try clear c7
          try clear c7b0
          try clear c8
          try clear p2
          obtain ⟨x11_2, x32_2, rfl, HA, HK2, HO_11, HO_30, HB⟩ := hrel
          cases gk with
          | zero => exact absurd HA.out (by simp [laws_FnLineFlags.l0])
          | succ k2 =>
            have H := HA.out
            clear HA
            simp only [laws_FnLineFlags.l0] at H
            by_cases c14 : x32_2 < (y299.length : Int)
            · rw [if_pos c14] at H
              have c14b0 : decide (x32_2 < (y299.length : Int)) = true := decide_eq_true c14
              clear c14
              by_cases c15 : 0 ≤ x32_2
              · rw [if_pos c15] at H
                have c15b0 : decide (0 ≤ x32_2) = true := decide_eq_true c15
                clear c15
                by_cases c16 : x32_2 < (y299.length : Int)
                · rw [if_pos c16] at H
                  have c16b0 : decide (x32_2 < (y299.length : Int)) = true := decide_eq_true c16
                  clear c16
                  obtain ⟨bq17, hbq17⟩ : ∃ b_ : Bool, b_ = (rdOf false y299 x32_2) := ⟨_, rfl⟩
                  replace H : (if bq17 = true then ((some (([7, 10, 11, 6] : List Int) : List Int)).bind fun y303 => (if x32_2 < (y303.length : Int) then (if x11_2.length < 140737488355328 then (laws_FnLineFlags.l0 k2 a0 a1 a2 a3 a4 (x11_2 ++ [rd y303 x32_2]) y299 (y299.length : Int) (wrap64 (x32_2 + 1))) else (none)) else (none))) else (laws_FnLineFlags.l0 k2 a0 a1 a2 a3 a4 x11_2 y299 (y299.length : Int) (wrap64 (x32_2 + 1)))) = some r := by rw [← hbq17] at H; exact H
                  have Nbq17 := Aside0.mk hbq17
                  clear hbq17
                  by_cases c18 : bq17 = true
                  · subst c18
                    have H1 : ((some (([7, 10, 11, 6] : List Int) : List Int)).bind fun y303 => (if x32_2 < (y303.length : Int) then (if x11_2.length < 140737488355328 then (laws_FnLineFlags.l0 k2 a0 a1 a2 a3 a4 (x11_2 ++ [rd y303 x32_2]) y299 (y299.length : Int) (wrap64 (x32_2 + 1))) else (none)) else (none))) = some r := by rw [if_pos rfl] at H; exact H
                    clear H
                    have H := H1
                    clear H1
                    obtain ⟨y303, hy303⟩ : ∃ y_ : List Int, y_ = (([7, 10, 11, 6] : List Int)) := ⟨_, rfl⟩
                    replace H : (if x32_2 < (y303.length : Int) then (if x11_2.length < 140737488355328 then (laws_FnLineFlags.l0 k2 a0 a1 a2 a3 a4 (x11_2 ++ [rd y303 x32_2]) y299 (y299.length : Int) (wrap64 (x32_2 + 1))) else (none)) else (none)) = some r := by first | (rw [hy303]; with_reducible exact H) | (have H2_ := (Option.bind_some _ _).symm.trans H; rw [hy303]; with_reducible exact H2_) | (have H2_ := (Option.bind_some _ _).symm.trans H; with_reducible exact H2_) | with_reducible exact H | (rw [hy303]; exact H) | exact H
                    have Ny303 := Aside0.mk hy303
                    clear hy303
                    by_cases c19 : x32_2 < (y303.length : Int)
                    · rw [if_pos c19] at H
                      have c19b0 : decide (x32_2 < (y303.length : Int)) = true := decide_eq_true c19
                      clear c19
                      by_cases c20 : x11_2.length < 140737488355328
                      · rw [if_pos c20] at H
                        have LMc20 := Aside0.mk c20
                        clear c20
                        obtain ⟨y307, hy307⟩ : ∃ y_ : List Int, y_ = (x11_2 ++ [rd y303 x32_2]) := ⟨_, rfl⟩
                        replace H : (laws_FnLineFlags.l0 k2 a0 a1 a2 a3 a4 y307 y299 (y299.length : Int) (wrap64 (x32_2 + 1))) = some r := by first | (rw [hy307]; with_reducible exact H) | (have H2_ := (Option.bind_some _ _).symm.trans H; rw [hy307]; with_reducible exact H2_) | (have H2_ := (Option.bind_some _ _).symm.trans H; with_reducible exact H2_) | with_reducible exact H | (rw [hy307]; exact H) | exact H
                        have Ny307 := Aside0.mk hy307
                        clear hy307
                        have H' := Aside0.mk H
                        clear H
                        have p302 : 0 ≤ (x32_2 : Int) := of_decide_eq_true qA
                        have q302 : x32_2 < (y299.length : Int) := of_decide_eq_true qA
                        obtain ⟨ad302, e302, hx302_0⟩ := Kd.at_bool (Kd.R_reads' HO_30.out).2.2 x32_2 p302 q302
                        (try rw [← Nbq17.out] at hx302_0)
                        cases e302
                        replace p302 := eq_true p302
                        replace q302 := eq_true q302
                        go_wp2_with (first | ((with_reducible refine gate_dst (N := 39) rfl ?_); refine Kd.R_lit (Kd.int .u8) _ 5 ?hg (N := 39) ?hd (xs := ([7, 10, 11, 6] : List Int)) (inner := [.int .u8 7, .int .u8 10, .int .u8 11, .int .u8 6]) (ok := fun _ => True) (okp := fun _ => True) ?hr ?hp (fun _ hk => hk) trivial (Below.refl _ _) (Nat.le_refl _) (by simp) ?_; (case hd => rfl); (case hg => rfl); (case hr => first | (go_simp; done) | (go_simp; rfl)); (case hp => exact (Reps.one (show Kd.M (Kd.int .u8) _ _ _ 7 [.int .u8 7] from rfl) (Reps.one (show Kd.M (Kd.int .u8) _ _ _ 10 [.int .u8 10] from rfl) (Reps.one (show Kd.M (Kd.int .u8) _ _ _ 11 [.int .u8 11] from rfl) (Reps.one (show Kd.M (Kd.int .u8) _ _ _ 6 [.int .u8 6] from rfl) (Reps.none _ _)))))); intro v304 w21 ho22 hb hg_ hnew_; clear hg_ hnew_; (first | rw [← Ny303.out] at ho22 | (simp only [Int.reduceToNat] at ho22; rw [← Ny303.out] at ho22)); have n0_ := Aside0.mk (Kd.R_elder' (qR HO_11.out) (Kd.R_base ho22) hb); have n1_ := Aside0.mk (Kd.R_below (qR HO_30.out) hb); have n2_ := Aside0.mk (Kd.R_lower (Kd.R_new' ho22 (Kd.R_lt (qR HO_11.out))) (below_size qB)); have n3_ := Aside0.mk (below_step qB hb); clear HO_11; clear HO_30; clear HB; have HO_11 := n0_; have HO_30 := n1_; have HO305 := n2_; have HB := n3_; clear n0_ n1_ n2_ n3_; clear hb ho22; obtain ⟨Ao23, co23, eo23⟩ := Kd.R_slice HO305.out; subst eo23; have p306 : 0 ≤ (x32_2 : Int) := of_decide_eq_true qA; have q306 : x32_2 < (y303.length : Int) := of_decide_eq_true qA; obtain ⟨ad306, e306, hx306_0⟩ := Kd.at_int (Kd.R_reads' HO305.out).2.2 x32_2 p306 q306; cases e306; replace p306 := eq_true p306; replace q306 := eq_true q306) | ((with_reducible refine gate_builtin (b := .append) (xs := #[.tmp 38, .tmp 43]) rfl ?_); at_builtin; refine Kd.R_append (Kd.int .u8) (w0 := w) w.heap.size rfl (.tmp 38) (.tmp 43) 23 5 (.int .u8 0) 1 rfl Tryd.underlying23 info5 rfl (by decide) (by omega) u11 x11_2 (rd y303 x32_2) [.int .u8 (rd y303 x32_2)] (fun k_ => some k_ ≠ (.slice (some ad306) y303.length co23 : Value).ownBlock) (fun _ => False) rfl rfl ?aP (fun _ hk => hk.elim) ?aF ?aO ?aB ?aS ?aL ?_; (case aP => exact rfl); (case aB => exact qB); (case aF => exact (fun k_ hk => Kd.fresh' (Kd.R_lt (qR HO305.out)) k_ hk)); (case aO => exact (by (with_reducible repeat (first | apply Kd.R_alloc | apply Kd.R_drewN | apply Kd.R_drew)); exact Kd.R_mono HO_11.out (fun _ hk => hk.2))); (case aS => exact (below_size qB)); (case aL => have := LMc20.out; omega); intro v308 w24 ho hb hg hat; rw [← Ny307.out] at ho; have n0_ := Aside0.mk (Kd.R_over' (qR HO_30.out) (Kd.R_typed (qR HO_11.out)) (by decide) hg); have n1_ := Aside0.mk (Kd.R_after (ok := (fun _ => True)) (qR HO305.out) hg hat); have n2_ := Aside0.mk (hb); have n3_ := Aside0.mk (ho); clear HO_30; clear HO305; clear HB; clear HO_11; have HO_30 := n0_; have HO305 := n1_; have HB := n2_; have HO309 := n3_; clear n0_ n1_ n2_ n3_; clear ho hb hg hat))
                        go_roundg k2
                        case measure => have := HJ5.out; have := HK2.out; omega
                        case rel => exact ⟨(y307), (wrap64 (x32_2 + 1)), (by first | rfl | (simp; done) | (simp [*]; done)), H', ⟨by have := HJ5.out; have := HK2.out; omega⟩, ⟨by (with_reducible repeat (first | apply Kd.R_alloc | apply Kd.R_drewN | apply Kd.R_drew)); exact Kd.R_mono HO309.out (fun _ hk => trivial)⟩, ⟨by (with_reducible repeat (first | apply Kd.R_alloc | apply Kd.R_drewN | apply Kd.R_drew)); exact HO_30.out⟩, ⟨by repeat (first | (with_reducible first | exact HB.out | apply below_alloc | apply pw_below_drewN | apply below_drew1) | exact HB.out)⟩⟩
                      · rw [if_neg c20] at H
                        exact absurd H (by simp)
                    · rw [if_neg c19] at H
                      exact absurd H (by simp)
                  · replace c18 := Bool.eq_false_iff.mpr c18
                    subst c18
                    have H1 : (laws_FnLineFlags.l0 k2 a0 a1 a2 a3 a4 x11_2 y299 (y299.length : Int) (wrap64 (x32_2 + 1))) = some r := by rw [if_neg (show ¬ (false = true) by decide)] at H; exact H
                    clear H
                    have H := H1
                    clear H1
                    have H' := Aside0.mk H
                    clear H
                    have p302 : 0 ≤ (x32_2 : Int) := of_decide_eq_true qA
                    have q302 : x32_2 < (y299.length : Int) := of_decide_eq_true qA
                    obtain ⟨ad302, e302, hx302_0⟩ := Kd.at_bool (Kd.R_reads' HO_30.out).2.2 x32_2 p302 q302
                    (try rw [← Nbq17.out] at hx302_0)
                    cases e302
                    replace p302 := eq_true p302
                    replace q302 := eq_true q302
                    go_wp2
                    go_roundg k2
                    case measure => have := HJ5.out; have := HK2.out; omega
                    case rel => exact ⟨(x11_2), (wrap64 (x32_2 + 1)), (by first | rfl | (simp; done) | (simp [*]; done)), H', ⟨by have := HJ5.out; have := HK2.out; omega⟩, ⟨by (with_reducible repeat (first | apply Kd.R_alloc | apply Kd.R_drewN | apply Kd.R_drew)); exact HO_11.out⟩, ⟨by (with_reducible repeat (first | apply Kd.R_alloc | apply Kd.R_drewN | apply Kd.R_drew)); exact HO_30.out⟩, ⟨by repeat (first | (with_reducible first | exact HB.out | apply below_alloc | apply pw_below_drewN | apply below_drew1) | exact HB.out)⟩⟩
                · rw [if_neg c16] at H
                  exact absurd H (by simp)
              · rw [if_neg c15] at H
                exact absurd H (by simp)
            · rw [if_neg c14] at H
              have c14b0 : decide (x32_2 < (y299.length : Int)) = false := decide_eq_false c14
              clear c14
              replace H := Option.bind_eq_some_iff.mp H
              obtain ⟨t310, A250, H⟩ := H
              replace H : ((some (([0, (wrap64 ((t310.length : Int) + 1)) % 256, 4] : List Int) : List Int)).bind fun y313 => (if x11_2.length + y313.length < 140737488355328 then ((some (x11_2 ++ y313 : List Int)).bind fun y316 => (if y316.length + t310.length < 140737488355328 then ((some (y316 ++ t310 : List Int)).bind fun y319 => ((laws_usual.f).bind fun bt322 => ((some (([1, 1] : List Int) : List Int)).bind fun y327 => (if y319.length + y327.length < 140737488355328 then ((laws_rowsOf.f k2 bt322.1 bt322.2.1 bt322.2.2.1 bt322.2.2.2.1 bt322.2.2.2.2 0 (y319 ++ y327) 3).bind fun bt333 => (if bt333.2 = true then (if 0 < (bt333.1.length : Int) then (if 1 < (bt333.1.length : Int) then (if (((rd_T38 bt333.1 0).f6) == a0) = true then (if (((rd_T38 bt333.1 0).f7) == a1) = true then (if (((rd_T38 bt333.1 0).f8) == a2) = true then (if (((rd_T38 bt333.1 0).f5) == a3) = true then (if ((rd_T38 bt333.1 0).f10) = a4 then (if ((rd_T38 bt333.1 1).f6 = true) then (some false) else (if ((rd_T38 bt333.1 1).f7 = true) then (some false) else (if ((rd_T38 bt333.1 1).f8 = true) then (some false) else (if (((rd_T38 bt333.1 1).f5) == a3) = true then (some (((rd_T38 bt333.1 1).f10) == 0)) else (some false))))) else (some false)) else (some false)) else (some false)) else (some false)) else (some false)) else (none)) else (none)) else (some false))) else (none))))) else (none))) else (none))) = some r := H
              have A25 := Aside0.mk A250
              clear A250
              obtain ⟨y313, hy313⟩ : ∃ y_ : List Int, y_ = (([0, (wrap64 ((t310.length : Int) + 1)) % 256, 4] : List Int)) := ⟨_, rfl⟩
              replace H : (if x11_2.length + y313.length < 140737488355328 then ((some (x11_2 ++ y313 : List Int)).bind fun y316 => (if y316.length + t310.length < 140737488355328 then ((some (y316 ++ t310 : List Int)).bind fun y319 => ((laws_usual.f).bind fun bt322 => ((some (([1, 1] : List Int) : List Int)).bind fun y327 => (if y319.length + y327.length < 140737488355328 then ((laws_rowsOf.f k2 bt322.1 bt322.2.1 bt322.2.2.1 bt322.2.2.2.1 bt322.2.2.2.2 0 (y319 ++ y327) 3).bind fun bt333 => (if bt333.2 = true then (if 0 < (bt333.1.length : Int) then (if 1 < (bt333.1.length : Int) then (if (((rd_T38 bt333.1 0).f6) == a0) = true then (if (((rd_T38 bt333.1 0).f7) == a1) = true then (if (((rd_T38 bt333.1 0).f8) == a2) = true then (if (((rd_T38 bt333.1 0).f5) == a3) = true then (if ((rd_T38 bt333.1 0).f10) = a4 then (if ((rd_T38 bt333.1 1).f6 = true) then (some false) else (if ((rd_T38 bt333.1 1).f7 = true) then (some false) else (if ((rd_T38 bt333.1 1).f8 = true) then (some false) else (if (((rd_T38 bt333.1 1).f5) == a3) = true then (some (((rd_T38 bt333.1 1).f10) == 0)) else (some false))))) else (some false)) else (some false)) else (some false)) else (some false)) else (some false)) else (none)) else (none)) else (some false))) else (none))))) else (none))) else (none)) = some r := by first | (rw [hy313]; with_reducible exact H) | (have H2_ := (Option.bind_some _ _).symm.trans H; rw [hy313]; with_reducible exact H2_) | (have H2_ := (Option.bind_some _ _).symm.trans H; with_reducible exact H2_) | with_reducible exact H | (rw [hy313]; exact H) | exact H
              have Ny313 := Aside0.mk hy313
              clear hy313
              by_cases c26 : x11_2.length + y313.length < 140737488355328
              · rw [if_pos c26] at H
                have LMc26 := Aside0.mk c26
                clear c26
                obtain ⟨y316, hy316⟩ : ∃ y_ : List Int, y_ = (x11_2 ++ y313) := ⟨_, rfl⟩
                replace H : (if y316.length + t310.length < 140737488355328 then ((some (y316 ++ t310 : List Int)).bind fun y319 => ((laws_usual.f).bind fun bt322 => ((some (([1, 1] : List Int) : List Int)).bind fun y327 => (if y319.length + y327.length < 140737488355328 then ((laws_rowsOf.f k2 bt322.1 bt322.2.1 bt322.2.2.1 bt322.2.2.2.1 bt322.2.2.2.2 0 (y319 ++ y327) 3).bind fun bt333 => (if bt333.2 = true then (if 0 < (bt333.1.length : Int) then (if 1 < (bt333.1.length : Int) then (if (((rd_T38 bt333.1 0).f6) == a0) = true then (if (((rd_T38 bt333.1 0).f7) == a1) = true then (if (((rd_T38 bt333.1 0).f8) == a2) = true then (if (((rd_T38 bt333.1 0).f5) == a3) = true then (if ((rd_T38 bt333.1 0).f10) = a4 then (if ((rd_T38 bt333.1 1).f6 = true) then (some false) else (if ((rd_T38 bt333.1 1).f7 = true) then (some false) else (if ((rd_T38 bt333.1 1).f8 = true) then (some false) else (if (((rd_T38 bt333.1 1).f5) == a3) = true then (some (((rd_T38 bt333.1 1).f10) == 0)) else (some false))))) else (some false)) else (some false)) else (some false)) else (some false)) else (some false)) else (none)) else (none)) else (some false))) else (none))))) else (none)) = some r := by first | (rw [hy316]; with_reducible exact H) | (have H2_ := (Option.bind_some _ _).symm.trans H; rw [hy316]; with_reducible exact H2_) | (have H2_ := (Option.bind_some _ _).symm.trans H; with_reducible exact H2_) | with_reducible exact H | (rw [hy316]; exact H) | exact H
                have Ny316 := Aside0.mk hy316
                clear hy316
                by_cases c27 : y316.length + t310.length < 140737488355328
                · rw [if_pos c27] at H
                  have LMc27 := Aside0.mk c27
                  clear c27
                  obtain ⟨y319, hy319⟩ : ∃ y_ : List Int, y_ = (y316 ++ t310) := ⟨_, rfl⟩
                  replace H : ((laws_usual.f).bind fun bt322 => ((some (([1, 1] : List Int) : List Int)).bind fun y327 => (if y319.length + y327.length < 140737488355328 then ((laws_rowsOf.f k2 bt322.1 bt322.2.1 bt322.2.2.1 bt322.2.2.2.1 bt322.2.2.2.2 0 (y319 ++ y327) 3).bind fun bt333 => (if bt333.2 = true then (if 0 < (bt333.1.length : Int) then (if 1 < (bt333.1.length : Int) then (if (((rd_T38 bt333.1 0).f6) == a0) = true then (if (((rd_T38 bt333.1 0).f7) == a1) = true then (if (((rd_T38 bt333.1 0).f8) == a2) = true then (if (((rd_T38 bt333.1 0).f5) == a3) = true then (if ((rd_T38 bt333.1 0).f10) = a4 then (if ((rd_T38 bt333.1 1).f6 = true) then (some false) else (if ((rd_T38 bt333.1 1).f7 = true) then (some false) else (if ((rd_T38 bt333.1 1).f8 = true) then (some false) else (if (((rd_T38 bt333.1 1).f5) == a3) = true then (some (((rd_T38 bt333.1 1).f10) == 0)) else (some false))))) else (some false)) else (some false)) else (some false)) else (some false)) else (some false)) else (none)) else (none)) else (some false))) else (none)))) = some r := by first | (rw [hy319]; with_reducible exact H) | (have H2_ := (Option.bind_some _ _).symm.trans H; rw [hy319]; with_reducible exact H2_) | (have H2_ := (Option.bind_some _ _).symm.trans H; with_reducible exact H2_) | with_reducible exact H | (rw [hy319]; exact H) | exact H
                  have Ny319 := Aside0.mk hy319
                  clear hy319
                  replace H := Option.bind_eq_some_iff.mp H
                  obtain ⟨⟨t322, t323, t324, t325, t326⟩, A280, H⟩ := H
                  replace H : ((some (([1, 1] : List Int) : List Int)).bind fun y327 => (if y319.length + y327.length < 140737488355328 then ((laws_rowsOf.f k2 t322 t323 t324 t325 t326 0 (y319 ++ y327) 3).bind fun bt333 => (if bt333.2 = true then (if 0 < (bt333.1.length : Int) then (if 1 < (bt333.1.length : Int) then (if (((rd_T38 bt333.1 0).f6) == a0) = true then (if (((rd_T38 bt333.1 0).f7) == a1) = true then (if (((rd_T38 bt333.1 0).f8) == a2) = true then (if (((rd_T38 bt333.1 0).f5) == a3) = true then (if ((rd_T38 bt333.1 0).f10) = a4 then (if ((rd_T38 bt333.1 1).f6 = true) then (some false) else (if ((rd_T38 bt333.1 1).f7 = true) then (some false) else (if ((rd_T38 bt333.1 1).f8 = true) then (some false) else (if (((rd_T38 bt333.1 1).f5) == a3) = true then (some (((rd_T38 bt333.1 1).f10) == 0)) else (some false))))) else (some false)) else (some false)) else (some false)) else (some false)) else (some false)) else (none)) else (none)) else (some false))) else (none))) = some r := H
                  have A28 := Aside0.mk A280
                  clear A280
                  obtain ⟨y327, hy327⟩ : ∃ y_ : List Int, y_ = (([1, 1] : List Int)) := ⟨_, rfl⟩
                  replace H : (if y319.length + y327.length < 140737488355328 then ((laws_rowsOf.f k2 t322 t323 t324 t325 t326 0 (y319 ++ y327) 3).bind fun bt333 => (if bt333.2 = true then (if 0 < (bt333.1.length : Int) then (if 1 < (bt333.1.length : Int) then (if (((rd_T38 bt333.1 0).f6) == a0) = true then (if (((rd_T38 bt333.1 0).f7) == a1) = true then (if (((rd_T38 bt333.1 0).f8) == a2) = true then (if (((rd_T38 bt333.1 0).f5) == a3) = true then (if ((rd_T38 bt333.1 0).f10) = a4 then (if ((rd_T38 bt333.1 1).f6 = true) then (some false) else (if ((rd_T38 bt333.1 1).f7 = true) then (some false) else (if ((rd_T38 bt333.1 1).f8 = true) then (some false) else (if (((rd_T38 bt333.1 1).f5) == a3) = true then (some (((rd_T38 bt333.1 1).f10) == 0)) else (some false))))) else (some false)) else (some false)) else (some false)) else (some false)) else (some false)) else (none)) else (none)) else (some false))) else (none)) = some r := by first | (rw [hy327]; with_reducible exact H) | (have H2_ := (Option.bind_some _ _).symm.trans H; rw [hy327]; with_reducible exact H2_) | (have H2_ := (Option.bind_some _ _).symm.trans H; with_reducible exact H2_) | with_reducible exact H | (rw [hy327]; exact H) | exact H
                  have Ny327 := Aside0.mk hy327
                  clear hy327
                  by_cases c29 : y319.length + y327.length < 140737488355328
                  · rw [if_pos c29] at H
                    have LMc29 := Aside0.mk c29
                    clear c29
                    obtain ⟨y330, hy330⟩ : ∃ y_ : List Int, y_ = (y319 ++ y327) := ⟨_, rfl⟩
                    replace H : ((laws_rowsOf.f k2 t322 t323 t324 t325 t326 0 y330 3).bind fun bt333 => (if bt333.2 = true then (if 0 < (bt333.1.length : Int) then (if 1 < (bt333.1.length : Int) then (if (((rd_T38 bt333.1 0).f6) == a0) = true then (if (((rd_T38 bt333.1 0).f7) == a1) = true then (if (((rd_T38 bt333.1 0).f8) == a2) = true then (if (((rd_T38 bt333.1 0).f5) == a3) = true then (if ((rd_T38 bt333.1 0).f10) = a4 then (if ((rd_T38 bt333.1 1).f6 = true) then (some false) else (if ((rd_T38 bt333.1 1).f7 = true) then (some false) else (if ((rd_T38 bt333.1 1).f8 = true) then (some false) else (if (((rd_T38 bt333.1 1).f5) == a3) = true then (some (((rd_T38 bt333.1 1).f10) == 0)) else (some false))))) else (some false)) else (some false)) else (some false)) else (some false)) else (some false)) else (none)) else (none)) else (some false))) = some r := by first | (rw [hy330]; with_reducible exact H) | (have H2_ := (Option.bind_some _ _).symm.trans H; rw [hy330]; with_reducible exact H2_) | (have H2_ := (Option.bind_some _ _).symm.trans H; with_reducible exact H2_) | with_reducible exact H | (rw [hy330]; exact H) | exact H
                    have Ny330 := Aside0.mk hy330
                    clear hy330
                    replace H := Option.bind_eq_some_iff.mp H
                    obtain ⟨⟨t333, t336⟩, A300, H⟩ := H
                    replace H : (if t336 = true then (if 0 < (t333.length : Int) then (if 1 < (t333.length : Int) then (if (((rd_T38 t333 0).f6) == a0) = true then (if (((rd_T38 t333 0).f7) == a1) = true then (if (((rd_T38 t333 0).f8) == a2) = true then (if (((rd_T38 t333 0).f5) == a3) = true then (if ((rd_T38 t333 0).f10) = a4 then (if ((rd_T38 t333 1).f6 = true) then (some false) else (if ((rd_T38 t333 1).f7 = true) then (some false) else (if ((rd_T38 t333 1).f8 = true) then (some false) else (if (((rd_T38 t333 1).f5) == a3) = true then (some (((rd_T38 t333 1).f10) == 0)) else (some false))))) else (some false)) else (some false)) else (some false)) else (some false)) else (some false)) else (none)) else (none)) else (some false)) = some r := H
                    have A30 := Aside0.mk A300
                    clear A300
                    by_cases c31 : t336 = true
                    · subst c31
                      have H1 : (if 0 < (t333.length : Int) then (if 1 < (t333.length : Int) then (if (((rd_T38 t333 0).f6) == a0) = true then (if (((rd_T38 t333 0).f7) == a1) = true then (if (((rd_T38 t333 0).f8) == a2) = true then (if (((rd_T38 t333 0).f5) == a3) = true then (if ((rd_T38 t333 0).f10) = a4 then (if ((rd_T38 t333 1).f6 = true) then (some false) else (if ((rd_T38 t333 1).f7 = true) then (some false) else (if ((rd_T38 t333 1).f8 = true) then (some false) else (if (((rd_T38 t333 1).f5) == a3) = true then (some (((rd_T38 t333 1).f10) == 0)) else (some false))))) else (some false)) else (some false)) else (some false)) else (some false)) else (some false)) else (none)) else (none)) = some r := by rw [if_pos rfl] at H; exact H
                      clear H
                      have H := H1
                      clear H1
                      by_cases c32 : 0 < (t333.length : Int)
                      · rw [if_pos c32] at H
                        have c32b0 : decide (0 < (t333.length : Int)) = true := decide_eq_true c32
                        have c32b1 : decide (0 < t333.length) = true := decide_eq_true (by omega)
                        clear c32
                        by_cases c33 : 1 < (t333.length : Int)
                        · rw [if_pos c33] at H
                          have c33b0 : decide (1 < (t333.length : Int)) = true := decide_eq_true c33
                          have c33b1 : decide (1 < t333.length) = true := decide_eq_true (by omega)
                          clear c33
                          by_cases c34 : (((rd_T38 t333 0).f6) == a0) = true
                          · rw [if_pos c34] at H
                            have c34b0 : (((rd_T38 t333 0).f6) == a0) = true := c34
                            (try (have c34b1 : decide (((rd_T38 t333 0).f6) = a0) = true := by simpa using c34))
                            (try (have c34b2 : (((rd_T38 t333 0).f6) == a0) = true := by simpa using c34))
                            clear c34
                            by_cases c35 : (((rd_T38 t333 0).f7) == a1) = true
                            · rw [if_pos c35] at H
                              have c35b0 : (((rd_T38 t333 0).f7) == a1) = true := c35
                              (try (have c35b1 : decide (((rd_T38 t333 0).f7) = a1) = true := by simpa using c35))
                              (try (have c35b2 : (((rd_T38 t333 0).f7) == a1) = true := by simpa using c35))
                              clear c35
                              by_cases c36 : (((rd_T38 t333 0).f8) == a2) = true
                              · rw [if_pos c36] at H
                                have c36b0 : (((rd_T38 t333 0).f8) == a2) = true := c36
                                (try (have c36b1 : decide (((rd_T38 t333 0).f8) = a2) = true := by simpa using c36))
                                (try (have c36b2 : (((rd_T38 t333 0).f8) == a2) = true := by simpa using c36))
                                clear c36
                                by_cases c37 : (((rd_T38 t333 0).f5) == a3) = true
                                · rw [if_pos c37] at H
                                  have c37b0 : (((rd_T38 t333 0).f5) == a3) = true := c37
                                  (try (have c37b1 : decide (((rd_T38 t333 0).f5) = a3) = true := by simpa using c37))
                                  (try (have c37b2 : (((rd_T38 t333 0).f5) == a3) = true := by simpa using c37))
                                  clear c37
                                  by_cases c38 : ((rd_T38 t333 0).f10) = a4
                                  · rw [if_pos c38] at H
                                    have c38b0 : (((rd_T38 t333 0).f10) == a4) = true := beq_iff_eq.mpr c38
                                    have c38b1 : (((rd_T38 t333 0).f10) != a4) = false := bne_eq_false_iff_eq.mpr c38
                                    clear c38
                                    obtain ⟨bq39, hbq39⟩ : ∃ b_ : Bool, b_ = ((rd_T38 t333 1).f6) := ⟨_, rfl⟩
                                    replace H : (if (bq39 = true) then (some false) else (if ((rd_T38 t333 1).f7 = true) then (some false) else (if ((rd_T38 t333 1).f8 = true) then (some false) else (if (((rd_T38 t333 1).f5) == a3) = true then (some (((rd_T38 t333 1).f10) == 0)) else (some false))))) = some r := by rw [← hbq39] at H; exact H
                                    have Nbq39 := Aside0.mk hbq39
                                    clear hbq39
                                    by_cases c40 : (bq39 = true)
                                    · subst c40
                                      have H1 : (some false) = some r := by rw [if_pos rfl] at H; exact H
                                      clear H
                                      have H := H1
                                      clear H1
                                      exact absurd (Option.some.inj H) (by rw [HRT.out]; decide)
                                    · replace c40 := Bool.eq_false_iff.mpr c40
                                      subst c40
                                      have H1 : (if ((rd_T38 t333 1).f7 = true) then (some false) else (if ((rd_T38 t333 1).f8 = true) then (some false) else (if (((rd_T38 t333 1).f5) == a3) = true then (some (((rd_T38 t333 1).f10) == 0)) else (some false)))) = some r := by rw [if_neg (show ¬ (false = true) by decide)] at H; exact H
                                      clear H
                                      have H := H1
                                      clear H1
                                      obtain ⟨bq93, hbq93⟩ : ∃ b_ : Bool, b_ = ((rd_T38 t333 1).f7) := ⟨_, rfl⟩
                                      replace H : (if (bq93 = true) then (some false) else (if ((rd_T38 t333 1).f8 = true) then (some false) else (if (((rd_T38 t333 1).f5) == a3) = true then (some (((rd_T38 t333 1).f10) == 0)) else (some false)))) = some r := by rw [← hbq93] at H; exact H
                                      have Nbq93 := Aside0.mk hbq93
                                      clear hbq93
                                      by_cases c94 : (bq93 = true)
                                      · subst c94
                                        have H1 : (some false) = some r := by rw [if_pos rfl] at H; exact H
                                        clear H
                                        have H := H1
                                        clear H1
                                        exact absurd (Option.some.inj H) (by rw [HRT.out]; decide)
                                      · replace c94 := Bool.eq_false_iff.mpr c94
                                        subst c94
                                        have H1 : (if ((rd_T38 t333 1).f8 = true) then (some false) else (if (((rd_T38 t333 1).f5) == a3) = true then (some (((rd_T38 t333 1).f10) == 0)) else (some false))) = some r := by rw [if_neg (show ¬ (false = true) by decide)] at H; exact H
                                        clear H
                                        have H := H1
                                        clear H1
                                        obtain ⟨bq147, hbq147⟩ : ∃ b_ : Bool, b_ = ((rd_T38 t333 1).f8) := ⟨_, rfl⟩
                                        replace H : (if (bq147 = true) then (some false) else (if (((rd_T38 t333 1).f5) == a3) = true then (some (((rd_T38 t333 1).f10) == 0)) else (some false))) = some r := by rw [← hbq147] at H; exact H
                                        have Nbq147 := Aside0.mk hbq147
                                        clear hbq147
                                        by_cases c148 : (bq147 = true)
                                        · subst c148
                                          have H1 : (some false) = some r := by rw [if_pos rfl] at H; exact H
                                          clear H
                                          have H := H1
                                          clear H1
                                          exact absurd (Option.some.inj H) (by rw [HRT.out]; decide)
                                        · replace c148 := Bool.eq_false_iff.mpr c148
                                          subst c148
                                          have H1 : (if (((rd_T38 t333 1).f5) == a3) = true then (some (((rd_T38 t333 1).f10) == 0)) else (some false)) = some r := by rw [if_neg (show ¬ (false = true) by decide)] at H; exact H
                                          clear H
                                          have H := H1
                                          clear H1
                                          by_cases c201 : (((rd_T38 t333 1).f5) == a3) = true
                                          · rw [if_pos c201] at H
                                            have c201b0 : (((rd_T38 t333 1).f5) == a3) = true := c201
                                            (try (have c201b1 : decide (((rd_T38 t333 1).f5) = a3) = true := by simpa using c201))
                                            (try (have c201b2 : (((rd_T38 t333 1).f5) == a3) = true := by simpa using c201))
                                            clear c201
                                            obtain rfl := Option.some.inj H
                                            try go_wp2_with (first | ((with_reducible refine gate_callee (f := 13) rfl ?_); refine goesL_ (some 48) rfl rfl Tryd.func13 (by kernel_rfl) rfl #[.int .u64 (IntKind.u64.wrap (a4)), .int .i64 0] rfl qL ?_; (with_reducible refine (spec_Unsigned.calls k2 (IntKind.u64.wrap (a4)) 0 t310 _ A25.out).mono ?_); rintro e w202 ⟨v311, rfl, ho0, hb⟩; refine ⟨_, rfl, ?_⟩; have n0_ := Aside0.mk (Kd.R_elder' (qR HO_11.out) (Kd.R_base ho0) hb); have n1_ := Aside0.mk (Kd.R_below (qR HO_30.out) hb); have n2_ := Aside0.mk (Kd.R_lower (Kd.R_new' ho0 (Kd.R_lt (qR HO_11.out))) (below_size qB)); have n3_ := Aside0.mk (below_step qB hb); clear HO_11; clear HO_30; clear HB; have HO_11 := n0_; have HO_30 := n1_; have HO312 := n2_; have HB := n3_; clear n0_ n1_ n2_ n3_; (try clear hb); (try clear hb2); (try clear hk); (try clear hi); (try clear ho0); obtain ⟨Ao203, co203, eo203⟩ := Kd.R_slice HO312.out; subst eo203) | ((with_reducible refine gate_dst (N := 54) rfl ?_); refine Kd.R_lit (Kd.int .u8) _ 5 ?hg (N := 54) ?hd (xs := ([0, (wrap64 ((t310.length : Int) + 1)) % 256, 4] : List Int)) (inner := [.int .u8 0, .int .u8 ((wrap64 ((t310.length : Int) + 1)) % 256), .int .u8 4]) (ok := fun _ => True) (okp := fun _ => True) ?hr ?hp (fun _ hk => hk) trivial (Below.refl _ _) (Nat.le_refl _) (by simp) ?_; (case hd => rfl); (case hg => rfl); (case hr => first | (go_simp; done) | (go_simp; rfl)); (case hp => exact (Reps.one (show Kd.M (Kd.int .u8) _ _ _ 0 [.int .u8 0] from rfl) (Reps.one (show Kd.M (Kd.int .u8) _ _ _ ((wrap64 ((t310.length : Int) + 1)) % 256) [.int .u8 ((wrap64 ((t310.length : Int) + 1)) % 256)] from rfl) (Reps.one (show Kd.M (Kd.int .u8) _ _ _ 4 [.int .u8 4] from rfl) (Reps.none _ _))))); intro v314 w204 ho205 hb hg_ hnew_; clear hg_ hnew_; (first | rw [← Ny313.out] at ho205 | (simp only [Int.reduceToNat] at ho205; rw [← Ny313.out] at ho205)); have n0_ := Aside0.mk (Kd.R_elder' (qR HO_11.out) (Kd.R_base ho205) hb); have n1_ := Aside0.mk (Kd.R_below (qR HO_30.out) hb); have n2_ := Aside0.mk (Kd.R_elder' (qR HO312.out) (Kd.R_base ho205) hb); have n3_ := Aside0.mk (Kd.R_lower (Kd.R_new' (Kd.R_new' ho205 (Kd.R_lt (qR HO_11.out))) (Kd.R_lt (qR HO312.out))) (below_size qB)); have n4_ := Aside0.mk (below_step qB hb); clear HO_11; clear HO_30; clear HO312; clear HB; have HO_11 := n0_; have HO_30 := n1_; have HO312 := n2_; have HO315 := n3_; have HB := n4_; clear n0_ n1_ n2_ n3_ n4_; clear hb ho205; obtain ⟨Ao207, co207, eo207⟩ := Kd.R_slice HO315.out; subst eo207) | ((with_reducible refine gate_builtin (b := .append) (xs := #[.tmp 49, .tmp 54]) rfl ?_); at_builtin; refine Kd.R_append_rows (Kd.int .u8) (w0 := w) w.heap.size rfl (.tmp 49) (.tmp 54) 23 5 (.int .u8 0) 1 rfl Tryd.underlying23 info5 rfl (by decide) (by omega) u11 x11_2 y313 _ _ _ (fun k_ => some k_ ≠ (.slice Ao203 t310.length co203 : Value).ownBlock ∧ some k_ ≠ (.slice Ao207 y313.length co207 : Value).ownBlock) (fun _ => False) rfl rfl ?aO ?aR (fun _ _ h => h) (fun _ h => h.elim) ?aF ?aB ?aS ?aL ?_; (case aR => exact qC (Kd.R_reads' HO315.out).2.2); (case aB => exact qB); (case aF => exact (fun k_ hk => ⟨Kd.fresh' (Kd.R_lt (qR HO312.out)) k_ hk, Kd.fresh' (Kd.R_lt (qR HO315.out)) k_ hk⟩)); (case aO => exact (by (with_reducible repeat (first | apply Kd.R_alloc | apply Kd.R_drewN | apply Kd.R_drew)); exact Kd.R_mono HO_11.out (fun _ hk => ⟨hk.1.2, hk.2⟩))); (case aS => exact (below_size qB)); (case aL => have := LMc26.out; omega); intro v317 w206 ho hb hg hat; rw [← Ny316.out] at ho; have n0_ := Aside0.mk (Kd.R_over' (qR HO_30.out) (Kd.R_typed (qR HO_11.out)) (by decide) hg); have n1_ := Aside0.mk (Kd.R_after (ok := (fun k_ => some k_ ≠ (.slice Ao207 y313.length co207 : Value).ownBlock)) (by (with_reducible repeat (first | apply Kd.R_alloc | apply Kd.R_drewN | apply Kd.R_drew)); exact Kd.R_mono HO312.out (fun _ hk => ⟨hk.2, hk.1.2⟩)) hg hat); have n2_ := Aside0.mk (Kd.R_after (ok := (fun k_ => some k_ ≠ (.slice Ao203 t310.length co203 : Value).ownBlock)) (by (with_reducible repeat (first | apply Kd.R_alloc | apply Kd.R_drewN | apply Kd.R_drew)); exact Kd.R_mono HO315.out (fun _ hk => ⟨hk.2, hk.1.2⟩)) hg hat); have n3_ := Aside0.mk (hb); have n4_ := Aside0.mk (ho); clear HO_30; clear HO312; clear HO315; clear HB; clear HO_11; have HO_30 := n0_; have HO312 := n1_; have HO315 := n2_; have HB := n3_; have HO318 := n4_; clear n0_ n1_ n2_ n3_ n4_; clear ho hb hg hat) | ((with_reducible refine gate_builtin (b := .append) (xs := #[.tmp 55, .tmp 56]) rfl ?_); at_builtin; refine Kd.R_append_rows (Kd.int .u8) (w0 := w) w.heap.size rfl (.tmp 55) (.tmp 56) 23 5 (.int .u8 0) 1 rfl Tryd.underlying23 info5 rfl (by decide) (by omega) v317 y316 t310 _ _ _ (fun k_ => some k_ ≠ (.slice Ao203 t310.length co203 : Value).ownBlock ∧ some k_ ≠ (.slice Ao207 y313.length co207 : Value).ownBlock) (fun _ => False) rfl rfl ?aO ?aR (fun _ _ h => h) (fun _ h => h.elim) ?aF ?aB ?aS ?aL ?_; (case aR => exact qC (Kd.R_reads' HO312.out).2.2); (case aB => exact qB); (case aF => exact (fun k_ hk => ⟨Kd.fresh' (Kd.R_lt (qR HO312.out)) k_ hk, Kd.fresh' (Kd.R_lt (qR HO315.out)) k_ hk⟩)); (case aO => exact (qR HO318.out)); (case aS => exact (below_size qB)); (case aL => have := LMc27.out; omega); intro v320 w208 ho hb hg hat; rw [← Ny319.out] at ho; have n0_ := Aside0.mk (Kd.R_over' (qR HO_30.out) (Kd.R_typed (qR HO318.out)) (by decide) hg); have n1_ := Aside0.mk (Kd.R_after (ok := (fun k_ => some k_ ≠ (.slice Ao207 y313.length co207 : Value).ownBlock)) (qR HO312.out) hg hat); have n2_ := Aside0.mk (Kd.R_after (ok := (fun k_ => some k_ ≠ (.slice Ao203 t310.length co203 : Value).ownBlock)) (qR HO315.out) hg hat); have n3_ := Aside0.mk (hb); have n4_ := Aside0.mk (ho); clear HO_30; clear HO312; clear HO315; clear HB; clear HO318; have HO_30 := n0_; have HO312 := n1_; have HO315 := n2_; have HB := n3_; have HO321 := n4_; clear n0_ n1_ n2_ n3_ n4_; clear ho hb hg hat) | ((with_reducible refine gate_callee (f := 16) rfl ?_); refine goesL_ (some 59) rfl rfl Tryd.func16 (by kernel_rfl) rfl #[] rfl qL ?_; (with_reducible refine (laws_usual.calls  t322 t323 t324 t325 t326 _ A28.out).mono ?_); rintro e w209 ⟨rfl, hb⟩; refine ⟨_, rfl, ?_⟩; have n0_ := Aside0.mk (Kd.R_below (qR HO_30.out) hb); have n1_ := Aside0.mk (Kd.R_below (qR HO312.out) hb); have n2_ := Aside0.mk (Kd.R_below (qR HO315.out) hb); have n3_ := Aside0.mk (Kd.R_below (qR HO321.out) hb); have n4_ := Aside0.mk (below_step qB hb); clear HO_30; clear HO312; clear HO315; clear HO321; clear HB; have HO_30 := n0_; have HO312 := n1_; have HO315 := n2_; have HO321 := n3_; have HB := n4_; clear n0_ n1_ n2_ n3_ n4_; (try clear hb); (try clear hb2); (try clear hk); (try clear hi)) | ((with_reducible refine gate_dst (N := 61) rfl ?_); refine Kd.R_lit (Kd.int .u8) _ 5 ?hg (N := 61) ?hd (xs := ([1, 1] : List Int)) (inner := [.int .u8 1, .int .u8 1]) (ok := fun _ => True) (okp := fun _ => True) ?hr ?hp (fun _ hk => hk) trivial (Below.refl _ _) (Nat.le_refl _) (by simp) ?_; (case hd => rfl); (case hg => rfl); (case hr => first | (go_simp; done) | (go_simp; rfl)); (case hp => exact (Reps.one (show Kd.M (Kd.int .u8) _ _ _ 1 [.int .u8 1] from rfl) (Reps.one (show Kd.M (Kd.int .u8) _ _ _ 1 [.int .u8 1] from rfl) (Reps.none _ _)))); intro v328 w210 ho211 hb hg_ hnew_; clear hg_ hnew_; (first | rw [← Ny327.out] at ho211 | (simp only [Int.reduceToNat] at ho211; rw [← Ny327.out] at ho211)); have n0_ := Aside0.mk (Kd.R_below (qR HO_30.out) hb); have n1_ := Aside0.mk (Kd.R_elder' (qR HO312.out) (Kd.R_base ho211) hb); have n2_ := Aside0.mk (Kd.R_elder' (qR HO315.out) (Kd.R_base ho211) hb); have n3_ := Aside0.mk (Kd.R_elder' (qR HO321.out) (Kd.R_base ho211) hb); have n4_ := Aside0.mk (Kd.R_lower (Kd.R_new' (Kd.R_new' (Kd.R_new' ho211 (Kd.R_lt (qR HO312.out))) (Kd.R_lt (qR HO315.out))) (Kd.R_lt (qR HO321.out))) (below_size qB)); have n5_ := Aside0.mk (below_step qB hb); clear HO_30; clear HO312; clear HO315; clear HO321; clear HB; have HO_30 := n0_; have HO312 := n1_; have HO315 := n2_; have HO321 := n3_; have HO329 := n4_; have HB := n5_; clear n0_ n1_ n2_ n3_ n4_ n5_; clear hb ho211; obtain ⟨Ao213, co213, eo213⟩ := Kd.R_slice HO329.out; subst eo213) | ((with_reducible refine gate_builtin (b := .append) (xs := #[.tmp 60, .tmp 61]) rfl ?_); at_builtin; refine Kd.R_append_rows (Kd.int .u8) (w0 := w) w.heap.size rfl (.tmp 60) (.tmp 61) 23 5 (.int .u8 0) 1 rfl Tryd.underlying23 info5 rfl (by decide) (by omega) v320 y319 y327 _ _ _ (fun k_ => some k_ ≠ (.slice Ao203 t310.length co203 : Value).ownBlock ∧ some k_ ≠ (.slice Ao207 y313.length co207 : Value).ownBlock ∧ some k_ ≠ (.slice Ao213 y327.length co213 : Value).ownBlock) (fun _ => False) rfl rfl ?aO ?aR (fun _ _ h => h) (fun _ h => h.elim) ?aF ?aB ?aS ?aL ?_; (case aR => exact qC (Kd.R_reads' HO329.out).2.2); (case aB => exact qB); (case aF => exact (fun k_ hk => ⟨Kd.fresh' (Kd.R_lt (qR HO312.out)) k_ hk, Kd.fresh' (Kd.R_lt (qR HO315.out)) k_ hk, Kd.fresh' (Kd.R_lt (qR HO329.out)) k_ hk⟩)); (case aO => exact (by (with_reducible repeat (first | apply Kd.R_alloc | apply Kd.R_drewN | apply Kd.R_drew)); exact Kd.R_mono HO321.out (fun _ hk => ⟨hk.1.1, ⟨hk.1.2, hk.2⟩⟩))); (case aS => exact (below_size qB)); (case aL => have := LMc29.out; omega); intro v331 w212 ho hb hg hat; rw [← Ny330.out] at ho; have n0_ := Aside0.mk (Kd.R_over' (qR HO_30.out) (Kd.R_typed (qR HO321.out)) (by decide) hg); have n1_ := Aside0.mk (Kd.R_after (ok := (fun k_ => some k_ ≠ (.slice Ao207 y313.length co207 : Value).ownBlock ∧ some k_ ≠ (.slice Ao213 y327.length co213 : Value).ownBlock)) (by (with_reducible repeat (first | apply Kd.R_alloc | apply Kd.R_drewN | apply Kd.R_drew)); exact Kd.R_mono HO312.out (fun _ hk => ⟨⟨hk.1.1, hk.2⟩, hk.1.2⟩)) hg hat); have n2_ := Aside0.mk (Kd.R_after (ok := (fun k_ => some k_ ≠ (.slice Ao203 t310.length co203 : Value).ownBlock ∧ some k_ ≠ (.slice Ao213 y327.length co213 : Value).ownBlock)) (by (with_reducible repeat (first | apply Kd.R_alloc | apply Kd.R_drewN | apply Kd.R_drew)); exact Kd.R_mono HO315.out (fun _ hk => ⟨⟨hk.1.1, hk.2⟩, hk.1.2⟩)) hg hat); have n3_ := Aside0.mk (Kd.R_after (ok := (fun k_ => some k_ ≠ (.slice Ao203 t310.length co203 : Value).ownBlock ∧ some k_ ≠ (.slice Ao207 y313.length co207 : Value).ownBlock)) (by (with_reducible repeat (first | apply Kd.R_alloc | apply Kd.R_drewN | apply Kd.R_drew)); exact Kd.R_mono HO329.out (fun _ hk => ⟨⟨hk.1.1.2, hk.1.2⟩, hk.2⟩)) hg hat); have n4_ := Aside0.mk (hb); have n5_ := Aside0.mk (ho); clear HO_30; clear HO312; clear HO315; clear HO329; clear HB; clear HO321; have HO_30 := n0_; have HO312 := n1_; have HO315 := n2_; have HO329 := n3_; have HB := n4_; have HO332 := n5_; clear n0_ n1_ n2_ n3_ n4_ n5_; clear ho hb hg hat; obtain ⟨Ao214, co214, eo214⟩ := Kd.R_slice HO332.out; subst eo214) | ((with_reducible refine gate_callee (f := 19) rfl ?_); refine goesL_ (some 63) rfl rfl Tryd.func19 (by kernel_rfl) rfl #[.agg #[.int .i64 t322, .int .i64 t323, .int .i64 t324, .int .i64 t325, .int .i64 t326], .int .u64 0, .slice Ao214 y330.length co214, .int .i64 3] rfl qL ?_; (with_reducible refine (laws_rowsOf.calls k2 t322 t323 t324 t325 t326 0 _ _ y330 3 t333 true _ ?side1 ?side2 A30.out ?sideG).mono ?_); (case sideG => exact HGL.out.below qB); (case side1 => exact qC (Kd.R_reads' HO332.out).2.2); (case side2 => exact (Kd.R_reads' HO332.out).2.1); rintro e w215 ⟨v334, rfl, ho0, hb⟩; refine ⟨_, rfl, ?_⟩; have n0_ := Aside0.mk (Kd.R_below (qR HO_30.out) hb); have n1_ := Aside0.mk (Kd.R_below (qR HO312.out) hb); have n2_ := Aside0.mk (Kd.R_below (qR HO315.out) hb); have n3_ := Aside0.mk (Kd.R_below (qR HO329.out) hb); have n4_ := Aside0.mk (Kd.R_below (qR HO332.out) hb); have n5_ := Aside0.mk (Kd.R_lower ho0 (below_size qB)); have n6_ := Aside0.mk (below_step qB hb); clear HO_30; clear HO312; clear HO315; clear HO329; clear HO332; clear HB; have HO_30 := n0_; have HO312 := n1_; have HO315 := n2_; have HO329 := n3_; have HO332 := n4_; have HO335 := n5_; have HB := n6_; clear n0_ n1_ n2_ n3_ n4_ n5_ n6_; (try clear hb); (try clear hb2); (try clear hk); (try clear hi); (try clear ho0)))
                                            have n0_ := Aside0.mk (Kd.R_drew HO_30.out)
                                            have n1_ := Aside0.mk (Kd.R_drew HO312.out)
                                            have n2_ := Aside0.mk (Kd.R_drew HO315.out)
                                            have n3_ := Aside0.mk (Kd.R_drew HO329.out)
                                            have n4_ := Aside0.mk (Kd.R_drew HO332.out)
                                            have n5_ := Aside0.mk (Kd.R_drew HO335.out)
                                            have n6_ := Aside0.mk (below_drew1 HB.out)
                                            clear HO_30
                                            clear HO312
                                            clear HO315
                                            clear HO329
                                            clear HO332
                                            clear HO335
                                            clear HB
                                            have HO_30 := n0_
                                            have HO312 := n1_
                                            have HO315 := n2_
                                            have HO329 := n3_
                                            have HO332 := n4_
                                            have HO335 := n5_
                                            have HB := n6_
                                            clear n0_ n1_ n2_ n3_ n4_ n5_ n6_
                                            obtain ⟨Ao217, co217, eo217⟩ := Kd.R_slice HO335.out
                                            (first | subst eo217 | (injection eo217 with f1_ f2_ f3_; have f4_ := f1_.symm; have f5_ := f3_.symm; clear f1_ f2_ f3_; subst f4_; subst f5_))
                                            have p337 : 0 ≤ (0 : Int) := (by omega)
                                            have q337 : 0 < (t333.length : Int) := of_decide_eq_true qA
                                            obtain ⟨ad337, e337, hx337_0, hx337_1, hx337_2, hx337_3, hx337_4, hx337_5, hx337_6, hx337_7, hx337_8, hx337_9, hx337_10, hx337_11, hx337_12, hx337_13, hx337_14⟩ := at_T38 (Kd.R_reads' HO335.out).2.2 0 p337 q337
                                            (try rw [← Nbq39.out] at hx337_2)
                                            (try rw [← Nbq93.out] at hx337_2)
                                            (try rw [← Nbq147.out] at hx337_2)
                                            (try rw [← Nbq39.out] at hx337_8)
                                            (try rw [← Nbq93.out] at hx337_8)
                                            (try rw [← Nbq147.out] at hx337_8)
                                            (try rw [← Nbq39.out] at hx337_9)
                                            (try rw [← Nbq93.out] at hx337_9)
                                            (try rw [← Nbq147.out] at hx337_9)
                                            (try rw [← Nbq39.out] at hx337_10)
                                            (try rw [← Nbq93.out] at hx337_10)
                                            (try rw [← Nbq147.out] at hx337_10)
                                            (try rw [← Nbq39.out] at hx337_11)
                                            (try rw [← Nbq93.out] at hx337_11)
                                            (try rw [← Nbq147.out] at hx337_11)
                                            (try rw [← Nbq39.out] at hx337_14)
                                            (try rw [← Nbq93.out] at hx337_14)
                                            (try rw [← Nbq147.out] at hx337_14)
                                            cases e337
                                            have qi337 : (0 < t333.length) = True := eq_true (by omega)
                                            (try rw [show ((0 : Int)).toNat = 0 from rfl] at hx337_0)
                                            (try rw [show 0 * 15 = 0 from rfl] at hx337_0)
                                            (try rw [Addr.add_zero'] at hx337_0)
                                            (try rw [show ((0 : Int)).toNat = 0 from rfl] at hx337_1)
                                            (try rw [show 0 * 15 = 0 from rfl] at hx337_1)
                                            (try rw [Addr.add_zero'] at hx337_1)
                                            (try rw [show ((0 : Int)).toNat = 0 from rfl] at hx337_2)
                                            (try rw [show 0 * 15 = 0 from rfl] at hx337_2)
                                            (try rw [Addr.add_zero'] at hx337_2)
                                            (try rw [show ((0 : Int)).toNat = 0 from rfl] at hx337_3)
                                            (try rw [show 0 * 15 = 0 from rfl] at hx337_3)
                                            (try rw [Addr.add_zero'] at hx337_3)
                                            (try rw [show ((0 : Int)).toNat = 0 from rfl] at hx337_4)
                                            (try rw [show 0 * 15 = 0 from rfl] at hx337_4)
                                            (try rw [Addr.add_zero'] at hx337_4)
                                            (try rw [show ((0 : Int)).toNat = 0 from rfl] at hx337_5)
                                            (try rw [show 0 * 15 = 0 from rfl] at hx337_5)
                                            (try rw [Addr.add_zero'] at hx337_5)
                                            (try rw [show ((0 : Int)).toNat = 0 from rfl] at hx337_6)
                                            (try rw [show 0 * 15 = 0 from rfl] at hx337_6)
                                            (try rw [Addr.add_zero'] at hx337_6)
                                            (try rw [show ((0 : Int)).toNat = 0 from rfl] at hx337_7)
                                            (try rw [show 0 * 15 = 0 from rfl] at hx337_7)
                                            (try rw [Addr.add_zero'] at hx337_7)
                                            (try rw [show ((0 : Int)).toNat = 0 from rfl] at hx337_8)
                                            (try rw [show 0 * 15 = 0 from rfl] at hx337_8)
                                            (try rw [Addr.add_zero'] at hx337_8)
                                            (try rw [show ((0 : Int)).toNat = 0 from rfl] at hx337_9)
                                            (try rw [show 0 * 15 = 0 from rfl] at hx337_9)
                                            (try rw [Addr.add_zero'] at hx337_9)
                                            (try rw [show ((0 : Int)).toNat = 0 from rfl] at hx337_10)
                                            (try rw [show 0 * 15 = 0 from rfl] at hx337_10)
                                            (try rw [Addr.add_zero'] at hx337_10)
                                            (try rw [show ((0 : Int)).toNat = 0 from rfl] at hx337_11)
                                            (try rw [show 0 * 15 = 0 from rfl] at hx337_11)
                                            (try rw [Addr.add_zero'] at hx337_11)
                                            (try rw [show ((0 : Int)).toNat = 0 from rfl] at hx337_12)
                                            (try rw [show 0 * 15 = 0 from rfl] at hx337_12)
                                            (try rw [Addr.add_zero'] at hx337_12)
                                            (try rw [show ((0 : Int)).toNat = 0 from rfl] at hx337_13)
                                            (try rw [show 0 * 15 = 0 from rfl] at hx337_13)
                                            (try rw [Addr.add_zero'] at hx337_13)
                                            (try rw [show ((0 : Int)).toNat = 0 from rfl] at hx337_14)
                                            (try rw [show 0 * 15 = 0 from rfl] at hx337_14)
                                            (try rw [Addr.add_zero'] at hx337_14)
                                            replace p337 := eq_true p337
                                            replace q337 := eq_true q337
                                            have p338 : 0 ≤ (1 : Int) := (by omega)
                                            have q338 : 1 < (t333.length : Int) := of_decide_eq_true qA
                                            obtain ⟨ad338, e338, hx338_0, hx338_1, hx338_2, hx338_3, hx338_4, hx338_5, hx338_6, hx338_7, hx338_8, hx338_9, hx338_10, hx338_11, hx338_12, hx338_13, hx338_14⟩ := at_T38 (Kd.R_reads' HO335.out).2.2 1 p338 q338
                                            (try rw [← Nbq39.out] at hx338_2)
                                            (try rw [← Nbq93.out] at hx338_2)
                                            (try rw [← Nbq147.out] at hx338_2)
                                            (try rw [← Nbq39.out] at hx338_8)
                                            (try rw [← Nbq93.out] at hx338_8)
                                            (try rw [← Nbq147.out] at hx338_8)
                                            (try rw [← Nbq39.out] at hx338_9)
                                            (try rw [← Nbq93.out] at hx338_9)
                                            (try rw [← Nbq147.out] at hx338_9)
                                            (try rw [← Nbq39.out] at hx338_10)
                                            (try rw [← Nbq93.out] at hx338_10)
                                            (try rw [← Nbq147.out] at hx338_10)
                                            (try rw [← Nbq39.out] at hx338_11)
                                            (try rw [← Nbq93.out] at hx338_11)
                                            (try rw [← Nbq147.out] at hx338_11)
                                            (try rw [← Nbq39.out] at hx338_14)
                                            (try rw [← Nbq93.out] at hx338_14)
                                            (try rw [← Nbq147.out] at hx338_14)
                                            obtain rfl : ad337 = ad338 := (by injection e338)
                                            (try simp only [show (1 : Int).toNat = 1 from rfl, Nat.reduceMul, Nat.reduceEqDiff, Go.Addr.add, ↓reduceIte] at hx338_0)
                                            (try simp only [show (1 : Int).toNat = 1 from rfl, Nat.reduceMul, Nat.reduceEqDiff, Go.Addr.add, ↓reduceIte] at hx338_1)
                                            (try simp only [show (1 : Int).toNat = 1 from rfl, Nat.reduceMul, Nat.reduceEqDiff, Go.Addr.add, ↓reduceIte] at hx338_2)
                                            (try simp only [show (1 : Int).toNat = 1 from rfl, Nat.reduceMul, Nat.reduceEqDiff, Go.Addr.add, ↓reduceIte] at hx338_3)
                                            (try simp only [show (1 : Int).toNat = 1 from rfl, Nat.reduceMul, Nat.reduceEqDiff, Go.Addr.add, ↓reduceIte] at hx338_4)
                                            (try simp only [show (1 : Int).toNat = 1 from rfl, Nat.reduceMul, Nat.reduceEqDiff, Go.Addr.add, ↓reduceIte] at hx338_5)
                                            (try simp only [show (1 : Int).toNat = 1 from rfl, Nat.reduceMul, Nat.reduceEqDiff, Go.Addr.add, ↓reduceIte] at hx338_6)
                                            (try simp only [show (1 : Int).toNat = 1 from rfl, Nat.reduceMul, Nat.reduceEqDiff, Go.Addr.add, ↓reduceIte] at hx338_7)
                                            (try simp only [show (1 : Int).toNat = 1 from rfl, Nat.reduceMul, Nat.reduceEqDiff, Go.Addr.add, ↓reduceIte] at hx338_8)
                                            (try simp only [show (1 : Int).toNat = 1 from rfl, Nat.reduceMul, Nat.reduceEqDiff, Go.Addr.add, ↓reduceIte] at hx338_9)
                                            (try simp only [show (1 : Int).toNat = 1 from rfl, Nat.reduceMul, Nat.reduceEqDiff, Go.Addr.add, ↓reduceIte] at hx338_10)
                                            (try simp only [show (1 : Int).toNat = 1 from rfl, Nat.reduceMul, Nat.reduceEqDiff, Go.Addr.add, ↓reduceIte] at hx338_11)
                                            (try simp only [show (1 : Int).toNat = 1 from rfl, Nat.reduceMul, Nat.reduceEqDiff, Go.Addr.add, ↓reduceIte] at hx338_12)
                                            (try simp only [show (1 : Int).toNat = 1 from rfl, Nat.reduceMul, Nat.reduceEqDiff, Go.Addr.add, ↓reduceIte] at hx338_13)
                                            (try simp only [show (1 : Int).toNat = 1 from rfl, Nat.reduceMul, Nat.reduceEqDiff, Go.Addr.add, ↓reduceIte] at hx338_14)
                                            have qi338 : (1 < t333.length) = True := eq_true (by omega)
                                            (try rw [show ((1 : Int)).toNat = 1 from rfl] at hx338_0)
                                            (try rw [show 1 * 15 = 15 from rfl] at hx338_0)
                                            (try rw [show ((1 : Int)).toNat = 1 from rfl] at hx338_1)
                                            (try rw [show 1 * 15 = 15 from rfl] at hx338_1)
                                            (try rw [show ((1 : Int)).toNat = 1 from rfl] at hx338_2)
                                            (try rw [show 1 * 15 = 15 from rfl] at hx338_2)
                                            (try rw [show ((1 : Int)).toNat = 1 from rfl] at hx338_3)
                                            (try rw [show 1 * 15 = 15 from rfl] at hx338_3)
                                            (try rw [show ((1 : Int)).toNat = 1 from rfl] at hx338_4)
                                            (try rw [show 1 * 15 = 15 from rfl] at hx338_4)
                                            (try rw [show ((1 : Int)).toNat = 1 from rfl] at hx338_5)
                                            (try rw [show 1 * 15 = 15 from rfl] at hx338_5)
                                            (try rw [show ((1 : Int)).toNat = 1 from rfl] at hx338_6)
                                            (try rw [show 1 * 15 = 15 from rfl] at hx338_6)
                                            (try rw [show ((1 : Int)).toNat = 1 from rfl] at hx338_7)
                                            (try rw [show 1 * 15 = 15 from rfl] at hx338_7)
                                            (try rw [show ((1 : Int)).toNat = 1 from rfl] at hx338_8)
                                            (try rw [show 1 * 15 = 15 from rfl] at hx338_8)
                                            (try rw [show ((1 : Int)).toNat = 1 from rfl] at hx338_9)
                                            (try rw [show 1 * 15 = 15 from rfl] at hx338_9)
                                            (try rw [show ((1 : Int)).toNat = 1 from rfl] at hx338_10)
                                            (try rw [show 1 * 15 = 15 from rfl] at hx338_10)
                                            (try rw [show ((1 : Int)).toNat = 1 from rfl] at hx338_11)
                                            (try rw [show 1 * 15 = 15 from rfl] at hx338_11)
                                            (try rw [show ((1 : Int)).toNat = 1 from rfl] at hx338_12)
                                            (try rw [show 1 * 15 = 15 from rfl] at hx338_12)
                                            (try rw [show ((1 : Int)).toNat = 1 from rfl] at hx338_13)
                                            (try rw [show 1 * 15 = 15 from rfl] at hx338_13)
                                            (try rw [show ((1 : Int)).toNat = 1 from rfl] at hx338_14)
                                            (try rw [show 1 * 15 = 15 from rfl] at hx338_14)
                                            replace p338 := eq_true p338
                                            replace q338 := eq_true q338
                                            refine start_ (n := 10) (S := fun w' => heldF ad337 t333 w') (ds := []) #[false, false, false, false, false, false, false, false, false, false] (by kernel_rfl) rfl rfl (show heldF ad337 t333 _ from ⟨hx337_0, hx337_1, hx337_2, hx337_3, hx337_4, hx337_5, hx337_6, hx337_7, hx337_8, hx337_9, hx337_10, hx337_11, hx337_12, hx337_13, hx337_14, hx338_0, hx338_1, hx338_2, hx338_3, hx338_4, hx338_5, hx338_6, hx338_7, hx338_8, hx338_9, hx338_10, hx338_11, hx338_12, hx338_13, hx338_14⟩) (fun hHeld => ?_); refine with_tabW laws_FnLineFlags.tab15 laws_FnLineFlags.bits15 (fun HT_ HW_ => ?_)
                                            generalize w215.drew = w216 at HO_30 HO312 HO315 HO329 HO332 HO335 HB hx337_0 hx337_1 hx337_10 hx337_11 hx337_12 hx337_13 hx337_14 hx337_2 hx337_3 hx337_4 hx337_5 hx337_6 hx337_7 hx337_8 hx337_9 hx338_0 hx338_1 hx338_10 hx338_11 hx338_12 hx338_13 hx338_14 hx338_2 hx338_3 hx338_4 hx338_5 hx338_6 hx338_7 hx338_8 hx338_9 hHeld ⊢
                                            refine pure_ (i := 0) (N := some 68) (v := ?_) (a' := ?_) #[true, false, false, false, false, false, false, false, false, false] rfl rfl (any_of HT_.out (by kernel_rfl)) (fun _ _ _ h => h) (Or.inl ⟨by rfl, ?_⟩) ?_ ?_
                                            rotate_left
                                            · intro w'
                                              go_simp
                                              with_reducible rfl
                                            rotate_left
                                            · simp only [Act.put, List.setIfInBounds_toArray, List.set_cons_zero, List.set_cons_succ, i64_w, i32_w]
                                              rfl
                                            refine pure_ (i := 1) (N := some 69) (v := ?_) (a' := ?_) #[true, true, false, false, false, false, false, false, false, false] rfl rfl (any_of HT_.out (by kernel_rfl)) (fun _ _ _ h => h) (Or.inl ⟨by rfl, ?_⟩) ?_ ?_
                                            rotate_left
                                            · intro w'
                                              go_simp
                                              with_reducible rfl
                                            rotate_left
                                            · simp only [Act.put, List.setIfInBounds_toArray, List.set_cons_zero, List.set_cons_succ, i64_w, i32_w]
                                              rfl
                                            refine pure_ (i := 3) (N := some 71) (v := ?_) (a' := ?_) #[true, true, false, true, false, false, false, false, false, false] rfl rfl (any_of HT_.out (by kernel_rfl)) (fun _ _ _ h => h) (Or.inl ⟨by rfl, ?_⟩) ?_ ?_
                                            rotate_left
                                            · intro w'
                                              go_simp
                                              with_reducible rfl
                                            rotate_left
                                            · simp only [Act.put, List.setIfInBounds_toArray, List.set_cons_zero, List.set_cons_succ, i64_w, i32_w]
                                              rfl
                                            refine pure_ (i := 4) (N := some 72) (v := ?_) (a' := ?_) #[true, true, false, true, true, false, false, false, false, false] rfl rfl (any_of HT_.out (by kernel_rfl)) (fun _ _ _ h => h) (Or.inl ⟨by rfl, ?_⟩) ?_ ?_
                                            rotate_left
                                            · intro w'
                                              go_simp
                                              with_reducible rfl
                                            rotate_left
                                            · simp only [Act.put, List.setIfInBounds_toArray, List.set_cons_zero, List.set_cons_succ, i64_w, i32_w]
                                              rfl
                                            refine take_ (i := 2) (N := some 70) (v := ?_) (a' := ?_) #[true, true, true, true, true, false, false, false, false, false] rfl rfl (take_ofW HT_.out HW_.out (by kernel_rfl)) (fun _ _ _ h => h) (Or.inl ⟨by rfl, ?_⟩) hHeld ?_ ?_
                                            rotate_left
                                            · rintro w' hS_
                                              obtain ⟨s0, s1, s2, s3, s4, s5, s6, s7, s8, s9, s10, s11, s12, s13, s14, s15, s16, s17, s18, s19, s20, s21, s22, s23, s24, s25, s26, s27, s28, s29⟩ := hS_
                                              go_simp
                                              with_reducible rfl
                                            rotate_left
                                            · simp only [Act.put, List.setIfInBounds_toArray, List.set_cons_zero, List.set_cons_succ, i64_w, i32_w]
                                              rfl
                                            refine take_ (i := 5) (N := some 73) (v := ?_) (a' := ?_) #[true, true, true, true, true, true, false, false, false, false] rfl rfl (take_ofW HT_.out HW_.out (by kernel_rfl)) (fun _ _ _ h => h) (Or.inl ⟨by rfl, ?_⟩) hHeld ?_ ?_
                                            rotate_left
                                            · rintro w' hS_
                                              obtain ⟨s0, s1, s2, s3, s4, s5, s6, s7, s8, s9, s10, s11, s12, s13, s14, s15, s16, s17, s18, s19, s20, s21, s22, s23, s24, s25, s26, s27, s28, s29⟩ := hS_
                                              go_simp
                                              with_reducible rfl
                                            rotate_left
                                            · simp only [Act.put, List.setIfInBounds_toArray, List.set_cons_zero, List.set_cons_succ, i64_w, i32_w]
                                              rfl
                                            refine join_ (σ := Nat × Nat) 2 #[true, true, true, true, true, true, true, true, false, false] (fun s_ => [(17, .pointer (some ⟨s_.1, 0, none⟩)), (18, .pointer (some ⟨s_.2, 0, none⟩))]) (fun s_ w' => (heldF ad337 t333 w') ∧ (Kd.R (Kd.int .u8) 5 w' w.heap.size (fun k_ => some k_ ≠ (.slice Ao207 y313.length co207 : Value).ownBlock ∧ some k_ ≠ (.slice Ao213 y327.length co213 : Value).ownBlock ∧ some k_ ≠ (.slice Ao214 y330.length co214 : Value).ownBlock) (.slice Ao203 t310.length co203) t310) ∧ (Kd.R (Kd.int .u8) 5 w' w.heap.size (fun k_ => some k_ ≠ (.slice Ao203 t310.length co203 : Value).ownBlock ∧ some k_ ≠ (.slice Ao213 y327.length co213 : Value).ownBlock ∧ some k_ ≠ (.slice Ao214 y330.length co214 : Value).ownBlock) (.slice Ao207 y313.length co207) y313) ∧ (Kd.R (Kd.int .u8) 5 w' w.heap.size (fun k_ => some k_ ≠ (.slice Ao203 t310.length co203 : Value).ownBlock ∧ some k_ ≠ (.slice Ao207 y313.length co207 : Value).ownBlock ∧ some k_ ≠ (.slice Ao214 y330.length co214 : Value).ownBlock) (.slice Ao213 y327.length co213) y327) ∧ (Kd.R (Kd.int .u8) 5 w' w.heap.size (fun k_ => some k_ ≠ (.slice Ao203 t310.length co203 : Value).ownBlock ∧ some k_ ≠ (.slice Ao207 y313.length co207 : Value).ownBlock ∧ some k_ ≠ (.slice Ao213 y327.length co213 : Value).ownBlock) (.slice Ao214 y330.length co214) y330) ∧ (Kd.R k38 38 w' w.heap.size (fun k_ => k_ ≠ s_.1 ∧ k_ ≠ s_.2) (.slice (some ad337) t333.length co217) t333) ∧ (Kd.R Kd.bool 4 w' w.heap.size (fun _ => True) (.slice Ao13 y299.length co13) y299) ∧ (w'.heap[s_.1]? = some (.cells #[.int .u64 0, .int .i64 0, .bool false, .string (⟨#[]⟩ : ByteArray), .int .u64 0, .int .i64 0, .int .i64 0, .int .i64 0, .bool false, .bool false, .bool false, .bool false, .int .i64 0, .int .i64 0, .bool false] 38 (0, 0))) ∧ (w'.heap[s_.2]? = some (.cells #[.int .u64 0, .int .i64 0, .bool false, .string (⟨#[]⟩ : ByteArray), .int .u64 0, .int .i64 0, .int .i64 0, .int .i64 0, .bool false, .bool false, .bool false, .bool false, .int .i64 0, .int .i64 0, .bool false] 38 (0, 0))) ∧ (w.heap.size ≤ s_.1) ∧ (w.heap.size ≤ s_.1) ∧ (s_.2 ≠ s_.1) ∧ (s_.1 ≠ s_.2) ∧ (w.heap.size ≤ s_.2) ∧ (w.heap.size ≤ s_.2) ∧ (Below w.heap.size w w')) ?_ ?_
                                            rotate_left
                                            · intro hCont
                                              refine two_ (i := 6) (j := 7) (Ni := some 17) (Nj := some 18) #[true, true, true, true, true, true, true, false, false, false] #[true, true, true, true, true, true, false, true, false, false] rfl rfl rfl rfl (two_of HT_.out (by kernel_rfl)) (by decide) (by decide) (fun K hK => ?_) (fun K hK => ?_)
                                              · skip
                                                refine box_step ?hg (N := 17) ?hd (cs := #[.int .u64 0, .int .i64 0, .bool false, .string (⟨#[]⟩ : ByteArray), .int .u64 0, .int .i64 0, .int .i64 0, .int .i64 0, .bool false, .bool false, .bool false, .bool false, .int .i64 0, .int .i64 0, .bool false]) (t := 38) ?hr ?_; (case hd => rfl); (case hg => rfl); (case hr => first | (go_simp; done) | (go_simp; rfl))
                                                intro gb339 hg w218 hbox hb
                                                have HF_ := heldF_below hb hHeld
                                                have n0_ := Aside0.mk (Kd.R_below (qR HO_30.out) hb)
                                                have n1_ := Aside0.mk (Kd.R_below (qR HO312.out) hb)
                                                have n2_ := Aside0.mk (Kd.R_below (qR HO315.out) hb)
                                                have n3_ := Aside0.mk (Kd.R_below (qR HO329.out) hb)
                                                have n4_ := Aside0.mk (Kd.R_below (qR HO332.out) hb)
                                                have n5_ := Aside0.mk (Kd.R_below (Kd.R_elderB (qR HO335.out) gb339 (Nat.le_of_eq hg.symm)) hb)
                                                have n6_ := Aside0.mk (below_step qB hb)
                                                have n7_ := Aside0.mk (hbox)
                                                have n8_ := Aside0.mk ((by rw [hg]; exact (below_size qB) : w.heap.size ≤ gb339))
                                                have n9_ := Aside0.mk ((by rw [hg]; exact (below_size qB) : w.heap.size ≤ gb339))
                                                clear HO_30
                                                clear HO312
                                                clear HO315
                                                clear HO329
                                                clear HO332
                                                clear HO335
                                                clear HB
                                                have HO_30 := n0_
                                                have HO312 := n1_
                                                have HO315 := n2_
                                                have HO329 := n3_
                                                have HO332 := n4_
                                                have HO335 := n5_
                                                have HB := n6_
                                                have BK339 := n7_
                                                have GW339 := n8_
                                                have GE339 := n9_
                                                clear n0_ n1_ n2_ n3_ n4_ n5_ n6_ n7_ n8_ n9_
                                                clear hb hbox hg
                                                refine hK.out _ _ HF_ (fun hHeld => ?_)
                                                clear hK K
                                                refine norm_ (a' := ?_) ?_ ?_
                                                rotate_left
                                                · show Act.put _ (some 17) _ = _
                                                  simp only [Act.put, List.setIfInBounds_toArray, List.set_cons_zero, List.set_cons_succ, i64_w, i32_w]
                                                  rfl
                                                refine one_ (i := 7) (N := some 18) #[true, true, true, true, true, true, true, true, false, false] rfl rfl (one_of HT_.out (by kernel_rfl)) (by decide) (fun K hK => ?_)
                                                refine box_step ?hg (N := 18) ?hd (cs := #[.int .u64 0, .int .i64 0, .bool false, .string (⟨#[]⟩ : ByteArray), .int .u64 0, .int .i64 0, .int .i64 0, .int .i64 0, .bool false, .bool false, .bool false, .bool false, .int .i64 0, .int .i64 0, .bool false]) (t := 38) ?hr ?_; (case hd => rfl); (case hg => rfl); (case hr => first | (go_simp; done) | (go_simp; rfl))
                                                intro gb340 hg w219 hbox hb
                                                have HF_ := heldF_below hb hHeld
                                                have n0_ := Aside0.mk (Kd.R_below (qR HO_30.out) hb)
                                                have n1_ := Aside0.mk (Kd.R_below (qR HO312.out) hb)
                                                have n2_ := Aside0.mk (Kd.R_below (qR HO315.out) hb)
                                                have n3_ := Aside0.mk (Kd.R_below (qR HO329.out) hb)
                                                have n4_ := Aside0.mk (Kd.R_below (qR HO332.out) hb)
                                                have n5_ := Aside0.mk (Kd.R_below (Kd.R_elderB (qR HO335.out) gb340 (Nat.le_of_eq hg.symm)) hb)
                                                have n6_ := Aside0.mk (blk_below (g := gb339) (o := .cells #[.int .u64 0, .int .i64 0, .bool false, .string (⟨#[]⟩ : ByteArray), .int .u64 0, .int .i64 0, .int .i64 0, .int .i64 0, .bool false, .bool false, .bool false, .bool false, .int .i64 0, .int .i64 0, .bool false] 38 (0, 0)) (qK BK339.out) hb)
                                                have n7_ := Aside0.mk (below_step (qG GE339.out) hb)
                                                have n8_ := Aside0.mk (hbox)
                                                have n9_ := Aside0.mk ((by rw [hg]; exact (below_size (qG GE339.out)) : w.heap.size ≤ gb340))
                                                have n10_ := Aside0.mk ((by rw [hg]; exact (below_size (qG GE339.out)) : w.heap.size ≤ gb340))
                                                have n11_ := Aside0.mk ((by rw [hg]; exact Nat.ne_of_lt (blk_lt (g := gb339) (o := .cells #[.int .u64 0, .int .i64 0, .bool false, .string (⟨#[]⟩ : ByteArray), .int .u64 0, .int .i64 0, .int .i64 0, .int .i64 0, .bool false, .bool false, .bool false, .bool false, .int .i64 0, .int .i64 0, .bool false] 38 (0, 0)) (qK BK339.out)) : gb339 ≠ gb340))
                                                have n12_ := Aside0.mk ((by rw [hg]; exact Nat.ne_of_gt (blk_lt (g := gb339) (o := .cells #[.int .u64 0, .int .i64 0, .bool false, .string (⟨#[]⟩ : ByteArray), .int .u64 0, .int .i64 0, .int .i64 0, .int .i64 0, .bool false, .bool false, .bool false, .bool false, .int .i64 0, .int .i64 0, .bool false] 38 (0, 0)) (qK BK339.out)) : gb340 ≠ gb339))
                                                clear HO_30
                                                clear HO312
                                                clear HO315
                                                clear HO329
                                                clear HO332
                                                clear HO335
                                                clear BK339
                                                clear HB
                                                have HO_30 := n0_
                                                have HO312 := n1_
                                                have HO315 := n2_
                                                have HO329 := n3_
                                                have HO332 := n4_
                                                have HO335 := n5_
                                                have BK339 := n6_
                                                have HB := n7_
                                                have BK340 := n8_
                                                have GW340 := n9_
                                                have GE340 := n10_
                                                have NB339_340 := n11_
                                                have NB340_339 := n12_
                                                clear n0_ n1_ n2_ n3_ n4_ n5_ n6_ n7_ n8_ n9_ n10_ n11_ n12_
                                                clear hb hbox hg
                                                refine hK.out _ _ HF_ (fun hHeld => ?_)
                                                clear hK K
                                                refine norm_ (a' := ?_) ?_ ?_
                                                rotate_left
                                                · show Act.put _ (some 18) _ = _
                                                  simp only [Act.put, List.setIfInBounds_toArray, List.set_cons_zero, List.set_cons_succ, i64_w, i32_w]
                                                  rfl
                                                exact norm_ (by simp only [putAll, Act.put, List.setIfInBounds_toArray, List.set_cons_zero, List.set_cons_succ]) (hCont (gb339, gb340) _ ⟨hHeld, (by (with_reducible repeat (first | apply Kd.R_alloc | apply Kd.R_drewN | apply Kd.R_drew)); exact Kd.R_mono HO312.out (fun _ hk => ⟨hk.1.1, ⟨hk.1.2, hk.2⟩⟩)), (by (with_reducible repeat (first | apply Kd.R_alloc | apply Kd.R_drewN | apply Kd.R_drew)); exact Kd.R_mono HO315.out (fun _ hk => ⟨hk.1.1, ⟨hk.1.2, hk.2⟩⟩)), (by (with_reducible repeat (first | apply Kd.R_alloc | apply Kd.R_drewN | apply Kd.R_drew)); exact Kd.R_mono HO329.out (fun _ hk => ⟨hk.1.1, ⟨hk.1.2, hk.2⟩⟩)), (qR HO332.out), (by (with_reducible repeat (first | apply Kd.R_alloc | apply Kd.R_drewN | apply Kd.R_drew)); exact Kd.R_mono HO335.out (fun _ hk => ⟨hk.1.2, hk.2⟩)), (qR HO_30.out), (qK BK339.out), (qK BK340.out), GW339.out, GE339.out, NB340_339.out, NB339_340.out, GW340.out, GE340.out, (by repeat (first | (with_reducible first | exact HB.out | apply below_alloc | apply pw_below_drewN | apply below_drew1 | refine below_set ?_ GE339.out | refine below_set ?_ GE340.out) | exact HB.out))⟩)
                                              · skip
                                                refine box_step ?hg (N := 18) ?hd (cs := #[.int .u64 0, .int .i64 0, .bool false, .string (⟨#[]⟩ : ByteArray), .int .u64 0, .int .i64 0, .int .i64 0, .int .i64 0, .bool false, .bool false, .bool false, .bool false, .int .i64 0, .int .i64 0, .bool false]) (t := 38) ?hr ?_; (case hd => rfl); (case hg => rfl); (case hr => first | (go_simp; done) | (go_simp; rfl))
                                                intro gb340 hg w218 hbox hb
                                                have HF_ := heldF_below hb hHeld
                                                have n0_ := Aside0.mk (Kd.R_below (qR HO_30.out) hb)
                                                have n1_ := Aside0.mk (Kd.R_below (qR HO312.out) hb)
                                                have n2_ := Aside0.mk (Kd.R_below (qR HO315.out) hb)
                                                have n3_ := Aside0.mk (Kd.R_below (qR HO329.out) hb)
                                                have n4_ := Aside0.mk (Kd.R_below (qR HO332.out) hb)
                                                have n5_ := Aside0.mk (Kd.R_below (Kd.R_elderB (qR HO335.out) gb340 (Nat.le_of_eq hg.symm)) hb)
                                                have n6_ := Aside0.mk (below_step qB hb)
                                                have n7_ := Aside0.mk (hbox)
                                                have n8_ := Aside0.mk ((by rw [hg]; exact (below_size qB) : w.heap.size ≤ gb340))
                                                have n9_ := Aside0.mk ((by rw [hg]; exact (below_size qB) : w.heap.size ≤ gb340))
                                                clear HO_30
                                                clear HO312
                                                clear HO315
                                                clear HO329
                                                clear HO332
                                                clear HO335
                                                clear HB
                                                have HO_30 := n0_
                                                have HO312 := n1_
                                                have HO315 := n2_
                                                have HO329 := n3_
                                                have HO332 := n4_
                                                have HO335 := n5_
                                                have HB := n6_
                                                have BK340 := n7_
                                                have GW340 := n8_
                                                have GE340 := n9_
                                                clear n0_ n1_ n2_ n3_ n4_ n5_ n6_ n7_ n8_ n9_
                                                clear hb hbox hg
                                                refine hK.out _ _ HF_ (fun hHeld => ?_)
                                                clear hK K
                                                refine norm_ (a' := ?_) ?_ ?_
                                                rotate_left
                                                · show Act.put _ (some 18) _ = _
                                                  simp only [Act.put, List.setIfInBounds_toArray, List.set_cons_zero, List.set_cons_succ, i64_w, i32_w]
                                                  rfl
                                                refine one_ (i := 6) (N := some 17) #[true, true, true, true, true, true, true, true, false, false] rfl rfl (one_of HT_.out (by kernel_rfl)) (by decide) (fun K hK => ?_)
                                                refine box_step ?hg (N := 17) ?hd (cs := #[.int .u64 0, .int .i64 0, .bool false, .string (⟨#[]⟩ : ByteArray), .int .u64 0, .int .i64 0, .int .i64 0, .int .i64 0, .bool false, .bool false, .bool false, .bool false, .int .i64 0, .int .i64 0, .bool false]) (t := 38) ?hr ?_; (case hd => rfl); (case hg => rfl); (case hr => first | (go_simp; done) | (go_simp; rfl))
                                                intro gb339 hg w219 hbox hb
                                                have HF_ := heldF_below hb hHeld
                                                have n0_ := Aside0.mk (Kd.R_below (qR HO_30.out) hb)
                                                have n1_ := Aside0.mk (Kd.R_below (qR HO312.out) hb)
                                                have n2_ := Aside0.mk (Kd.R_below (qR HO315.out) hb)
                                                have n3_ := Aside0.mk (Kd.R_below (qR HO329.out) hb)
                                                have n4_ := Aside0.mk (Kd.R_below (qR HO332.out) hb)
                                                have n5_ := Aside0.mk (Kd.R_below (Kd.R_elderB (qR HO335.out) gb339 (Nat.le_of_eq hg.symm)) hb)
                                                have n6_ := Aside0.mk (blk_below (g := gb340) (o := .cells #[.int .u64 0, .int .i64 0, .bool false, .string (⟨#[]⟩ : ByteArray), .int .u64 0, .int .i64 0, .int .i64 0, .int .i64 0, .bool false, .bool false, .bool false, .bool false, .int .i64 0, .int .i64 0, .bool false] 38 (0, 0)) (qK BK340.out) hb)
                                                have n7_ := Aside0.mk (below_step (qG GE340.out) hb)
                                                have n8_ := Aside0.mk (hbox)
                                                have n9_ := Aside0.mk ((by rw [hg]; exact (below_size (qG GE340.out)) : w.heap.size ≤ gb339))
                                                have n10_ := Aside0.mk ((by rw [hg]; exact (below_size (qG GE340.out)) : w.heap.size ≤ gb339))
                                                have n11_ := Aside0.mk ((by rw [hg]; exact Nat.ne_of_lt (blk_lt (g := gb340) (o := .cells #[.int .u64 0, .int .i64 0, .bool false, .string (⟨#[]⟩ : ByteArray), .int .u64 0, .int .i64 0, .int .i64 0, .int .i64 0, .bool false, .bool false, .bool false, .bool false, .int .i64 0, .int .i64 0, .bool false] 38 (0, 0)) (qK BK340.out)) : gb340 ≠ gb339))
                                                have n12_ := Aside0.mk ((by rw [hg]; exact Nat.ne_of_gt (blk_lt (g := gb340) (o := .cells #[.int .u64 0, .int .i64 0, .bool false, .string (⟨#[]⟩ : ByteArray), .int .u64 0, .int .i64 0, .int .i64 0, .int .i64 0, .bool false, .bool false, .bool false, .bool false, .int .i64 0, .int .i64 0, .bool false] 38 (0, 0)) (qK BK340.out)) : gb339 ≠ gb340))
                                                clear HO_30
                                                clear HO312
                                                clear HO315
                                                clear HO329
                                                clear HO332
                                                clear HO335
                                                clear BK340
                                                clear HB
                                                have HO_30 := n0_
                                                have HO312 := n1_
                                                have HO315 := n2_
                                                have HO329 := n3_
                                                have HO332 := n4_
                                                have HO335 := n5_
                                                have BK340 := n6_
                                                have HB := n7_
                                                have BK339 := n8_
                                                have GW339 := n9_
                                                have GE339 := n10_
                                                have NB340_339 := n11_
                                                have NB339_340 := n12_
                                                clear n0_ n1_ n2_ n3_ n4_ n5_ n6_ n7_ n8_ n9_ n10_ n11_ n12_
                                                clear hb hbox hg
                                                refine hK.out _ _ HF_ (fun hHeld => ?_)
                                                clear hK K
                                                refine norm_ (a' := ?_) ?_ ?_
                                                rotate_left
                                                · show Act.put _ (some 17) _ = _
                                                  simp only [Act.put, List.setIfInBounds_toArray, List.set_cons_zero, List.set_cons_succ, i64_w, i32_w]
                                                  rfl
                                                exact norm_ (by simp only [putAll, Act.put, List.setIfInBounds_toArray, List.set_cons_zero, List.set_cons_succ]) (hCont (gb339, gb340) _ ⟨hHeld, (by (with_reducible repeat (first | apply Kd.R_alloc | apply Kd.R_drewN | apply Kd.R_drew)); exact Kd.R_mono HO312.out (fun _ hk => ⟨hk.1.1, ⟨hk.1.2, hk.2⟩⟩)), (by (with_reducible repeat (first | apply Kd.R_alloc | apply Kd.R_drewN | apply Kd.R_drew)); exact Kd.R_mono HO315.out (fun _ hk => ⟨hk.1.1, ⟨hk.1.2, hk.2⟩⟩)), (by (with_reducible repeat (first | apply Kd.R_alloc | apply Kd.R_drewN | apply Kd.R_drew)); exact Kd.R_mono HO329.out (fun _ hk => ⟨hk.1.1, ⟨hk.1.2, hk.2⟩⟩)), (qR HO332.out), (by (with_reducible repeat (first | apply Kd.R_alloc | apply Kd.R_drewN | apply Kd.R_drew)); exact Kd.R_mono HO335.out (fun _ hk => ⟨hk.2, hk.1.2⟩)), (qR HO_30.out), (qK BK339.out), (qK BK340.out), GW339.out, GE339.out, NB340_339.out, NB339_340.out, GW340.out, GE340.out, (by repeat (first | (with_reducible first | exact HB.out | apply below_alloc | apply pw_below_drewN | apply below_drew1 | refine below_set ?_ GE340.out | refine below_set ?_ GE339.out) | exact HB.out))⟩)
                                            rintro ⟨gb339, gb340⟩ w220 ⟨hS_, h0_, h1_, h2_, h3_, h4_, h5_, h6_, h7_, h8_, h9_, h10_, h11_, h12_, h13_, h14_⟩
                                            have n0_ : Aside0 (Kd.R (Kd.int .u8) 5 w220 w.heap.size (fun k_ => some k_ ≠ (.slice Ao207 y313.length co207 : Value).ownBlock ∧ some k_ ≠ (.slice Ao213 y327.length co213 : Value).ownBlock ∧ some k_ ≠ (.slice Ao214 y330.length co214 : Value).ownBlock) (.slice Ao203 t310.length co203) t310) := ⟨h0_⟩
                                            have n1_ : Aside0 (Kd.R (Kd.int .u8) 5 w220 w.heap.size (fun k_ => some k_ ≠ (.slice Ao203 t310.length co203 : Value).ownBlock ∧ some k_ ≠ (.slice Ao213 y327.length co213 : Value).ownBlock ∧ some k_ ≠ (.slice Ao214 y330.length co214 : Value).ownBlock) (.slice Ao207 y313.length co207) y313) := ⟨h1_⟩
                                            have n2_ : Aside0 (Kd.R (Kd.int .u8) 5 w220 w.heap.size (fun k_ => some k_ ≠ (.slice Ao203 t310.length co203 : Value).ownBlock ∧ some k_ ≠ (.slice Ao207 y313.length co207 : Value).ownBlock ∧ some k_ ≠ (.slice Ao214 y330.length co214 : Value).ownBlock) (.slice Ao213 y327.length co213) y327) := ⟨h2_⟩
                                            have n3_ : Aside0 (Kd.R (Kd.int .u8) 5 w220 w.heap.size (fun k_ => some k_ ≠ (.slice Ao203 t310.length co203 : Value).ownBlock ∧ some k_ ≠ (.slice Ao207 y313.length co207 : Value).ownBlock ∧ some k_ ≠ (.slice Ao213 y327.length co213 : Value).ownBlock) (.slice Ao214 y330.length co214) y330) := ⟨h3_⟩
                                            have n4_ : Aside0 (Kd.R k38 38 w220 w.heap.size (fun k_ => k_ ≠ gb339 ∧ k_ ≠ gb340) (.slice (some ad337) t333.length co217) t333) := ⟨h4_⟩
                                            have n5_ : Aside0 (Kd.R Kd.bool 4 w220 w.heap.size (fun _ => True) (.slice Ao13 y299.length co13) y299) := ⟨h5_⟩
                                            have n6_ : Aside0 (w220.heap[gb339]? = some (.cells #[.int .u64 0, .int .i64 0, .bool false, .string (⟨#[]⟩ : ByteArray), .int .u64 0, .int .i64 0, .int .i64 0, .int .i64 0, .bool false, .bool false, .bool false, .bool false, .int .i64 0, .int .i64 0, .bool false] 38 (0, 0))) := ⟨h6_⟩
                                            have n7_ : Aside0 (w220.heap[gb340]? = some (.cells #[.int .u64 0, .int .i64 0, .bool false, .string (⟨#[]⟩ : ByteArray), .int .u64 0, .int .i64 0, .int .i64 0, .int .i64 0, .bool false, .bool false, .bool false, .bool false, .int .i64 0, .int .i64 0, .bool false] 38 (0, 0))) := ⟨h7_⟩
                                            have n8_ : Aside0 (w.heap.size ≤ gb339) := ⟨h8_⟩
                                            have n9_ : Aside0 (w.heap.size ≤ gb339) := ⟨h9_⟩
                                            have n10_ : Aside0 (gb340 ≠ gb339) := ⟨h10_⟩
                                            have n11_ : Aside0 (gb339 ≠ gb340) := ⟨h11_⟩
                                            have n12_ : Aside0 (w.heap.size ≤ gb340) := ⟨h12_⟩
                                            have n13_ : Aside0 (w.heap.size ≤ gb340) := ⟨h13_⟩
                                            have n14_ : Aside0 (Below w.heap.size w w220) := ⟨h14_⟩
                                            clear HO_30
                                            clear HO312
                                            clear HO315
                                            clear HO329
                                            clear HO332
                                            clear HO335
                                            clear HB
                                            clear h0_ h1_ h2_ h3_ h4_ h5_ h6_ h7_ h8_ h9_ h10_ h11_ h12_ h13_ h14_
                                            have HO312 := n0_
                                            have HO315 := n1_
                                            have HO329 := n2_
                                            have HO332 := n3_
                                            have HO335 := n4_
                                            have HO_30 := n5_
                                            have BK339 := n6_
                                            have BK340 := n7_
                                            have GW339 := n8_
                                            have GE339 := n9_
                                            have NB340_339 := n10_
                                            have NB339_340 := n11_
                                            have GW340 := n12_
                                            have GE340 := n13_
                                            have HB := n14_
                                            clear n0_ n1_ n2_ n3_ n4_ n5_ n6_ n7_ n8_ n9_ n10_ n11_ n12_ n13_ n14_
                                            have hHeld : heldF ad337 t333 w220 := hS_
                                            refine norm_ (a' := ?_) ?_ ?_
                                            rotate_left
                                            · simp only [putAll, Act.put, List.setIfInBounds_toArray, List.set_cons_zero, List.set_cons_succ]
                                              rfl
                                            refine one_ (i := 8) (N := none) #[true, true, true, true, true, true, true, true, true, false] rfl rfl (one_of HT_.out (by kernel_rfl)) (by decide) (fun K hK => ?_)
                                            have NE339 : ad337.block ≠ gb339 := Kd.own_blk (Kd.R_away HO335.out (fun _ hk => hk.1))
                                            have NE340 : ad337.block ≠ gb340 := Kd.own_blk (Kd.R_away HO335.out (fun _ hk => hk.2))
                                            refine srow_ (by rfl) rfl 38 (.tmp 17) (.tmp 70) rfl gb339 (#[.int .u64 ((rd_T38 t333 0).f0), .int .i64 ((rd_T38 t333 0).f1), .bool ((rd_T38 t333 0).f2.f0), .string ((rd_T38 t333 0).f2.f1), .int .u64 ((rd_T38 t333 0).f2.f2), .int .i64 ((rd_T38 t333 0).f2.f3), .int .i64 ((rd_T38 t333 0).f3), .int .i64 ((rd_T38 t333 0).f4), .bool ((rd_T38 t333 0).f5), .bool ((rd_T38 t333 0).f6), .bool ((rd_T38 t333 0).f7), .bool ((rd_T38 t333 0).f8), .int .i64 ((rd_T38 t333 0).f9), .int .i64 ((rd_T38 t333 0).f10), .bool ((rd_T38 t333 0).f11)]) rfl rfl 38 _ BK339.out (by kernel_rfl) rfl (by simp [Value.oneCell']) ?_
                                            refine hK.out _ _ (heldF_row NE339 hHeld) (fun hHeld => ?_)
                                            clear hK K
                                            have BL339 := setRow_heap w220 gb339 _ (#[.int .u64 ((rd_T38 t333 0).f0), .int .i64 ((rd_T38 t333 0).f1), .bool ((rd_T38 t333 0).f2.f0), .string ((rd_T38 t333 0).f2.f1), .int .u64 ((rd_T38 t333 0).f2.f2), .int .i64 ((rd_T38 t333 0).f2.f3), .int .i64 ((rd_T38 t333 0).f3), .int .i64 ((rd_T38 t333 0).f4), .bool ((rd_T38 t333 0).f5), .bool ((rd_T38 t333 0).f6), .bool ((rd_T38 t333 0).f7), .bool ((rd_T38 t333 0).f8), .int .i64 ((rd_T38 t333 0).f9), .int .i64 ((rd_T38 t333 0).f10), .bool ((rd_T38 t333 0).f11)]) _ _ BK339.out
                                            have BL340 := (setRow_other w220 gb339 gb340 (#[.int .u64 ((rd_T38 t333 0).f0), .int .i64 ((rd_T38 t333 0).f1), .bool ((rd_T38 t333 0).f2.f0), .string ((rd_T38 t333 0).f2.f1), .int .u64 ((rd_T38 t333 0).f2.f2), .int .i64 ((rd_T38 t333 0).f2.f3), .int .i64 ((rd_T38 t333 0).f3), .int .i64 ((rd_T38 t333 0).f4), .bool ((rd_T38 t333 0).f5), .bool ((rd_T38 t333 0).f6), .bool ((rd_T38 t333 0).f7), .bool ((rd_T38 t333 0).f8), .int .i64 ((rd_T38 t333 0).f9), .int .i64 ((rd_T38 t333 0).f10), .bool ((rd_T38 t333 0).f11)]) NB340_339.out).trans BK340.out
                                            have HB2 := below_srow HB.out GE339.out (#[.int .u64 ((rd_T38 t333 0).f0), .int .i64 ((rd_T38 t333 0).f1), .bool ((rd_T38 t333 0).f2.f0), .string ((rd_T38 t333 0).f2.f1), .int .u64 ((rd_T38 t333 0).f2.f2), .int .i64 ((rd_T38 t333 0).f2.f3), .int .i64 ((rd_T38 t333 0).f3), .int .i64 ((rd_T38 t333 0).f4), .bool ((rd_T38 t333 0).f5), .bool ((rd_T38 t333 0).f6), .bool ((rd_T38 t333 0).f7), .bool ((rd_T38 t333 0).f8), .int .i64 ((rd_T38 t333 0).f9), .int .i64 ((rd_T38 t333 0).f10), .bool ((rd_T38 t333 0).f11)])
                                            generalize w220.setRow gb339 (#[.int .u64 ((rd_T38 t333 0).f0), .int .i64 ((rd_T38 t333 0).f1), .bool ((rd_T38 t333 0).f2.f0), .string ((rd_T38 t333 0).f2.f1), .int .u64 ((rd_T38 t333 0).f2.f2), .int .i64 ((rd_T38 t333 0).f2.f3), .int .i64 ((rd_T38 t333 0).f3), .int .i64 ((rd_T38 t333 0).f4), .bool ((rd_T38 t333 0).f5), .bool ((rd_T38 t333 0).f6), .bool ((rd_T38 t333 0).f7), .bool ((rd_T38 t333 0).f8), .int .i64 ((rd_T38 t333 0).f9), .int .i64 ((rd_T38 t333 0).f10), .bool ((rd_T38 t333 0).f11)]) = w221 at BL339 BL340 HB2 hHeld ⊢
                                            refine one_ (i := 9) (N := none) #[true, true, true, true, true, true, true, true, true, true] rfl rfl (one_of HT_.out (by kernel_rfl)) (by decide) (fun K hK => ?_)
                                            refine srow_ (by rfl) rfl 38 (.tmp 18) (.tmp 73) rfl gb340 (#[.int .u64 ((rd_T38 t333 1).f0), .int .i64 ((rd_T38 t333 1).f1), .bool ((rd_T38 t333 1).f2.f0), .string ((rd_T38 t333 1).f2.f1), .int .u64 ((rd_T38 t333 1).f2.f2), .int .i64 ((rd_T38 t333 1).f2.f3), .int .i64 ((rd_T38 t333 1).f3), .int .i64 ((rd_T38 t333 1).f4), .bool ((rd_T38 t333 1).f5), .bool false, .bool false, .bool false, .int .i64 ((rd_T38 t333 1).f9), .int .i64 ((rd_T38 t333 1).f10), .bool ((rd_T38 t333 1).f11)]) rfl rfl 38 _ BL340 (by kernel_rfl) rfl (by simp [Value.oneCell']) ?_
                                            refine hK.out _ _ (heldF_row NE340 hHeld) (fun hHeld => ?_)
                                            clear hK K hHeld
                                            refine done_ (done_of HT_.out (by kernel_rfl)) ?_
                                            have BR340 := setRow_heap w221 gb340 _ (#[.int .u64 ((rd_T38 t333 1).f0), .int .i64 ((rd_T38 t333 1).f1), .bool ((rd_T38 t333 1).f2.f0), .string ((rd_T38 t333 1).f2.f1), .int .u64 ((rd_T38 t333 1).f2.f2), .int .i64 ((rd_T38 t333 1).f2.f3), .int .i64 ((rd_T38 t333 1).f3), .int .i64 ((rd_T38 t333 1).f4), .bool ((rd_T38 t333 1).f5), .bool false, .bool false, .bool false, .int .i64 ((rd_T38 t333 1).f9), .int .i64 ((rd_T38 t333 1).f10), .bool ((rd_T38 t333 1).f11)]) _ _ BL340
                                            have BR339 := (setRow_other w221 gb340 gb339 (#[.int .u64 ((rd_T38 t333 1).f0), .int .i64 ((rd_T38 t333 1).f1), .bool ((rd_T38 t333 1).f2.f0), .string ((rd_T38 t333 1).f2.f1), .int .u64 ((rd_T38 t333 1).f2.f2), .int .i64 ((rd_T38 t333 1).f2.f3), .int .i64 ((rd_T38 t333 1).f3), .int .i64 ((rd_T38 t333 1).f4), .bool ((rd_T38 t333 1).f5), .bool false, .bool false, .bool false, .int .i64 ((rd_T38 t333 1).f9), .int .i64 ((rd_T38 t333 1).f10), .bool ((rd_T38 t333 1).f11)]) NB339_340.out).trans BL339
                                            have HB3 := below_srow HB2 GE340.out (#[.int .u64 ((rd_T38 t333 1).f0), .int .i64 ((rd_T38 t333 1).f1), .bool ((rd_T38 t333 1).f2.f0), .string ((rd_T38 t333 1).f2.f1), .int .u64 ((rd_T38 t333 1).f2.f2), .int .i64 ((rd_T38 t333 1).f2.f3), .int .i64 ((rd_T38 t333 1).f3), .int .i64 ((rd_T38 t333 1).f4), .bool ((rd_T38 t333 1).f5), .bool false, .bool false, .bool false, .int .i64 ((rd_T38 t333 1).f9), .int .i64 ((rd_T38 t333 1).f10), .bool ((rd_T38 t333 1).f11)])
                                            generalize w221.setRow gb340 (#[.int .u64 ((rd_T38 t333 1).f0), .int .i64 ((rd_T38 t333 1).f1), .bool ((rd_T38 t333 1).f2.f0), .string ((rd_T38 t333 1).f2.f1), .int .u64 ((rd_T38 t333 1).f2.f2), .int .i64 ((rd_T38 t333 1).f2.f3), .int .i64 ((rd_T38 t333 1).f3), .int .i64 ((rd_T38 t333 1).f4), .bool ((rd_T38 t333 1).f5), .bool false, .bool false, .bool false, .int .i64 ((rd_T38 t333 1).f9), .int .i64 ((rd_T38 t333 1).f10), .bool ((rd_T38 t333 1).f11)]) = w222 at BR339 BR340 HB3 ⊢
                                            have hc339_8 := (blk_cell BR339 8).trans rfl
                                            have hc339_9 := (blk_cell BR339 9).trans rfl
                                            have hc339_10 := (blk_cell BR339 10).trans rfl
                                            have hc339_11 := (blk_cell BR339 11).trans rfl
                                            have hc339_13 := (blk_cell BR339 13).trans rfl
                                            have hc340_8 := (blk_cell BR340 8).trans rfl
                                            have hc340_9 := (blk_cell BR340 9).trans rfl
                                            have hc340_10 := (blk_cell BR340 10).trans rfl
                                            have hc340_11 := (blk_cell BR340 11).trans rfl
                                            have hc340_13 := (blk_cell BR340 13).trans rfl
                                            clear HB HO335 BK339 BK340 BL339 BL340 HB2
                                            have HB := Aside0.mk HB3
                                            go_wp2
                                            go_ret
                                            exact ⟨by first | rfl | (simp [*]; done), HB.out⟩
                                          · rw [if_neg c201] at H
                                            have c201b0 : (((rd_T38 t333 1).f5) == a3) = false := by simpa using c201
                                            (try (have c201b1 : decide (((rd_T38 t333 1).f5) = a3) = false := by simpa using c201))
                                            (try (have c201b2 : (((rd_T38 t333 1).f5) == a3) = false := by simpa using c201))
                                            (try (have c201b3 : ¬ (((rd_T38 t333 1).f5) = a3) := by simpa using c201))
                                            clear c201
                                            exact absurd (Option.some.inj H) (by rw [HRT.out]; decide)
                                  · rw [if_neg c38] at H
                                    have c38b0 : (((rd_T38 t333 0).f10) == a4) = false := beq_eq_false_iff_ne.mpr c38
                                    have c38b1 : (((rd_T38 t333 0).f10) != a4) = true := bne_iff_ne.mpr c38
                                    exact absurd (Option.some.inj H) (by rw [HRT.out]; decide)
                                · rw [if_neg c37] at H
                                  have c37b0 : (((rd_T38 t333 0).f5) == a3) = false := by simpa using c37
                                  (try (have c37b1 : decide (((rd_T38 t333 0).f5) = a3) = false := by simpa using c37))
                                  (try (have c37b2 : (((rd_T38 t333 0).f5) == a3) = false := by simpa using c37))
                                  (try (have c37b3 : ¬ (((rd_T38 t333 0).f5) = a3) := by simpa using c37))
                                  clear c37
                                  exact absurd (Option.some.inj H) (by rw [HRT.out]; decide)
                              · rw [if_neg c36] at H
                                have c36b0 : (((rd_T38 t333 0).f8) == a2) = false := by simpa using c36
                                (try (have c36b1 : decide (((rd_T38 t333 0).f8) = a2) = false := by simpa using c36))
                                (try (have c36b2 : (((rd_T38 t333 0).f8) == a2) = false := by simpa using c36))
                                (try (have c36b3 : ¬ (((rd_T38 t333 0).f8) = a2) := by simpa using c36))
                                clear c36
                                exact absurd (Option.some.inj H) (by rw [HRT.out]; decide)
                            · rw [if_neg c35] at H
                              have c35b0 : (((rd_T38 t333 0).f7) == a1) = false := by simpa using c35
                              (try (have c35b1 : decide (((rd_T38 t333 0).f7) = a1) = false := by simpa using c35))
                              (try (have c35b2 : (((rd_T38 t333 0).f7) == a1) = false := by simpa using c35))
                              (try (have c35b3 : ¬ (((rd_T38 t333 0).f7) = a1) := by simpa using c35))
                              clear c35
                              exact absurd (Option.some.inj H) (by rw [HRT.out]; decide)
                          · rw [if_neg c34] at H
                            have c34b0 : (((rd_T38 t333 0).f6) == a0) = false := by simpa using c34
                            (try (have c34b1 : decide (((rd_T38 t333 0).f6) = a0) = false := by simpa using c34))
                            (try (have c34b2 : (((rd_T38 t333 0).f6) == a0) = false := by simpa using c34))
                            (try (have c34b3 : ¬ (((rd_T38 t333 0).f6) = a0) := by simpa using c34))
                            clear c34
                            exact absurd (Option.some.inj H) (by rw [HRT.out]; decide)
                        · rw [if_neg c33] at H
                          exact absurd H (by simp)
                      · rw [if_neg c32] at H
                        exact absurd H (by simp)
                    · replace c31 := Bool.eq_false_iff.mpr c31
                      subst c31
                      have H1 : (some false) = some r := by rw [if_neg (show ¬ (false = true) by decide)] at H; exact H
                      clear H
                      have H := H1
                      clear H1
                      exact absurd (Option.some.inj H) (by rw [HRT.out]; decide)
                  · rw [if_neg c29] at H
                    exact absurd H (by simp)
                · rw [if_neg c27] at H
                  exact absurd H (by simp)
              · rw [if_neg c26] at H
                exact absurd H (by simp)

/-- THE ONE PURE STATEMENT of laws_FnLineFlags: yours. -/
def laws_FnLineFlags.Pure : Prop := ∀ (a0 : Bool) (a1 : Bool) (a2 : Bool) (a3 : Bool) (a4 : Int), (Lit.int .i64 a4).wf = true → ∃ k, laws_FnLineFlags.f k a0 a1 a2 a3 a4 = some true
theorem laws_FnLineFlags.walk (P : laws_FnLineFlags.Pure) (a0 : Bool) (a1 : Bool) (a2 : Bool) (a3 : Bool) (a4 : Int) (w : World) (w4 : (Lit.int .i64 a4).wf = true) (hG : Glob w) :
    Calls Tryd.prog 5 #[.bool a0, .bool a1, .bool a2, .bool a3, .int .i64 a4] w fun e w' => e = .returned (.bool true) ∧ Below w.heap.size w w' := by
  obtain ⟨k, h⟩ := P a0 a1 a2 a3 a4 w4
  refine (laws_FnLineFlags.calls k a0 a1 a2 a3 a4 true w h hG rfl).mono ?_
  rintro e w' ⟨rfl, hd⟩
  exact ⟨rfl, hd⟩
end Go.Proofs.YtnooghnbohjmlaaDoor.PPl
