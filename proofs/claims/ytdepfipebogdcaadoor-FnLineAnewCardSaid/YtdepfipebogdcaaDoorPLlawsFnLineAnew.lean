-- Printed by a program of this session (mkprint.py over the kit's print.py)
import Derived.Laws.Tables
import Derived.Test.YtdepfipebogdcaaDoorUa
import Derived.Test.YtdepfipebogdcaaDoorUb
import Derived.Test.YtdepfipebogdcaaDoorUd
namespace Go.Proofs.YtdepfipebogdcaaDoor.PPl
open Go.RowKit Go.Proofs.YtdepfipebogdcaaDoorW.PrintWords Go.Proofs.YtdepfipebogdcaaDoorW.PrintLast Go.Proofs.YtdepfipebogdcaaDoorW.PrintMore
attribute [local go_sem] max2_int max_two   -- for this text's walks alone
set_option linter.unusedVariables false
set_option linter.unusedSimpArgs false

attribute [local go_sem high] eqA38
theorem far15 {W : World} {g o0 o1 o2 o3 o4 o5 o6 o7 o8 o9 o10 o11 o12 o13 o14 : Nat} {v0 v1 v2 v3 v4 v5 v6 v7 v8 v9 v10 v11 v12 v13 v14 : Value} {q : Addr} (h : q.block ≠ g) : (((((((((((((((W.setCell ⟨g, o0, none⟩ v0).setCell ⟨g, o1, none⟩ v1).setCell ⟨g, o2, none⟩ v2).setCell ⟨g, o3, none⟩ v3).setCell ⟨g, o4, none⟩ v4).setCell ⟨g, o5, none⟩ v5).setCell ⟨g, o6, none⟩ v6).setCell ⟨g, o7, none⟩ v7).setCell ⟨g, o8, none⟩ v8).setCell ⟨g, o9, none⟩ v9).setCell ⟨g, o10, none⟩ v10).setCell ⟨g, o11, none⟩ v11).setCell ⟨g, o12, none⟩ v12).setCell ⟨g, o13, none⟩ v13).setCell ⟨g, o14, none⟩ v14).cell? q = W.cell? q := by
  simp only [cell_far (p := ⟨g, _, none⟩) h]
theorem qH {w w' : World} {p : Addr} {v : Value} (hb : Below w.heap.size w w') (h : w.cell? p = some v) : w'.cell? p = some v := (hb.cell (World.block_lt_of_cell? _ _ h)).trans h
theorem qNn {p : Prop} (q : p := by first | (simp only [putAll, Act.put, List.setIfInBounds_toArray, List.set_cons_zero, List.set_cons_succ]; done) | (simp only [putAll, Act.put, List.setIfInBounds_toArray, List.set_cons_zero, List.set_cons_succ]; rfl)) : p := q
/-! ### laws_FnLineAnew: function 3 -/
def laws_FnLineAnew.j0 : Nat → Int → Int → Int → Int → Bool → Option (Bool)
  | 0, _, _, _, _, _ => none
  | k + 1, x0, x1, x2, x3, x40 => if x40 = true then (some true) else ((some (([3] : List Int) : List Int)).bind fun y341 => ((spec_Signed.f k x0 0).bind fun t344 => (if y341.length + t344.length < 140737488355328 then ((some (y341 ++ t344 : List Int)).bind fun y347 => (if y347.length < 140737488355328 then ((some (y347 ++ [5] : List Int)).bind fun y350 => ((spec_Unsigned.f k (IntKind.u64.wrap (x1)) 0).bind fun t353 => (if y350.length + t353.length < 140737488355328 then ((some (y350 ++ t353 : List Int)).bind fun y356 => (if y356.length < 140737488355328 then ((some (y356 ++ [12] : List Int)).bind fun y359 => ((spec_Unsigned.f k (IntKind.u64.wrap (x2)) 0).bind fun t362 => (if y359.length + t362.length < 140737488355328 then ((some (y359 ++ t362 : List Int)).bind fun y365 => ((some (([6, 7, 10, 11, 0, 1, 1, 1] : List Int) : List Int)).bind fun y368 => (if y365.length + y368.length < 140737488355328 then ((laws_usual.f).bind fun bt374 => ((laws_plain.f k bt374.1 bt374.2.1 bt374.2.2.1 bt374.2.2.2.1 bt374.2.2.2.2 x3 (y365 ++ y368)).bind fun t379 => ((laws_nexts.f 4).bind fun t382 => ((impl_LineSteps.f k t379 ([] : List Int) 0 8 false (⟨#[]⟩ : ByteArray) t382).bind fun bt385 => (if bt385.2 = 0 then (if (bt385.1.length : Int) = 4 then (if 0 < (bt385.1.length : Int) then (if ((rd_T41 bt385.1 0).f2) = 0 then (if 1 < (bt385.1.length : Int) then (if ((rd_T41 bt385.1 1).f2) = 0 then (if 2 < (bt385.1.length : Int) then (if ((rd_T41 bt385.1 2).f2) = 0 then (if 3 < (bt385.1.length : Int) then (if ((rd_T41 bt385.1 3).f2) = 1 then (if (rd_T41 bt385.1 0).f0.f11 = true then (if ((rd_T41 bt385.1 0).f0.f0) = x3 then (if (((rd_T41 bt385.1 1).f0.f0) == 0 && (((rd_T41 bt385.1 1).f0.f1) == 0 && ((!((rd_T41 bt385.1 1).f0.f2.f0) && ((((rd_T41 bt385.1 1).f0.f2.f1).toList) == ([47, 97] : List UInt8) && (((rd_T41 bt385.1 1).f0.f2.f2) == 0 && (((rd_T41 bt385.1 1).f0.f2.f3) == 0)))) && (((rd_T41 bt385.1 1).f0.f3) == 1 && (((rd_T41 bt385.1 1).f0.f4) == 0 && (!((rd_T41 bt385.1 1).f0.f5) && (!((rd_T41 bt385.1 1).f0.f6) && (!((rd_T41 bt385.1 1).f0.f7) && (!((rd_T41 bt385.1 1).f0.f8) && (((rd_T41 bt385.1 1).f0.f9) == 0 && (((rd_T41 bt385.1 1).f0.f10) == 0 && (!((rd_T41 bt385.1 1).f0.f11))))))))))))) = true then (if (rd_T41 bt385.1 2).f0.f11 = true then (some (((rd_T41 bt385.1 2).f0.f0) == 0)) else (some false)) else (some false)) else (some false)) else (some false)) else (some false)) else (none)) else (some false)) else (none)) else (some false)) else (none)) else (some false)) else (none)) else (some false)) else (some false)))))) else (none)))) else (none)))) else (none))) else (none)))) else (none))) else (none))))
def laws_FnLineAnew.f (k : Nat) (a0 : Int) (a1 : Int) (a2 : Int) (a3 : Int) : Option (Bool) := if a0 < 0 then (laws_FnLineAnew.j0 k a0 a1 a2 a3 true) else (if a0 > 2147483648 then (laws_FnLineAnew.j0 k a0 a1 a2 a3 true) else (if a1 < 0 then (laws_FnLineAnew.j0 k a0 a1 a2 a3 true) else (if a1 > 2147483648 then (laws_FnLineAnew.j0 k a0 a1 a2 a3 true) else (if a2 < 0 then (laws_FnLineAnew.j0 k a0 a1 a2 a3 true) else (if a2 > 2147483648 then (laws_FnLineAnew.j0 k a0 a1 a2 a3 true) else (laws_FnLineAnew.j0 k a0 a1 a2 a3 (decide (a3 > 4611686018427387904))))))))
theorem laws_FnLineAnew.mono_l : ∀ k, (∀ y0 y1 y2 y3 y4, LeO (laws_FnLineAnew.j0 k y0 y1 y2 y3 y4) (laws_FnLineAnew.j0 (k + 1) y0 y1 y2 y3 y4))
  | 0 => fun _ _ _ _ _ r h => by simp [laws_FnLineAnew.j0] at h
  | k + 1 => by
    have ih0 := laws_FnLineAnew.mono_l k
    · intro y0 y1 y2 y3 y4
      unfold laws_FnLineAnew.j0
      repeat' first
      | (with_reducible exact ih0 _ _ _ _ _)
      | (with_reducible exact impl_LineSteps.mono _ _ _ _ _ _ _ _)
      | (with_reducible exact laws_plain.mono _ _ _ _ _ _ _ _)
      | (with_reducible exact spec_Signed.mono _ _ _)
      | (with_reducible exact spec_Unsigned.mono _ _ _)
      | (with_reducible exact LeO.refl _)
      | (with_reducible exact LeO.none _)
      | (with_reducible refine LeO.ite ?_ ?_)
      | (with_reducible refine LeO.bind ?_ (fun _ => ?_))
      | exact ih0 _ _ _ _ _
      | exact impl_LineSteps.mono _ _ _ _ _ _ _ _
      | exact laws_plain.mono _ _ _ _ _ _ _ _
      | exact spec_Signed.mono _ _ _
      | exact spec_Unsigned.mono _ _ _
      | exact LeO.none _
      | refine LeO.ite ?_ ?_
      | refine LeO.bind ?_ (fun _ => ?_)
theorem laws_FnLineAnew.mono : ∀ a0 a1 a2 a3 k, LeO (laws_FnLineAnew.f k a0 a1 a2 a3) (laws_FnLineAnew.f (k + 1) a0 a1 a2 a3) := by
  intro a0 a1 a2 a3 k
  have ih0 := laws_FnLineAnew.mono_l k
  unfold laws_FnLineAnew.f
  repeat' first
      | (with_reducible exact ih0 _ _ _ _ _)
      | (with_reducible exact impl_LineSteps.mono _ _ _ _ _ _ _ _)
      | (with_reducible exact laws_plain.mono _ _ _ _ _ _ _ _)
      | (with_reducible exact spec_Signed.mono _ _ _)
      | (with_reducible exact spec_Unsigned.mono _ _ _)
      | (with_reducible exact LeO.refl _)
      | (with_reducible exact LeO.none _)
      | (with_reducible refine LeO.ite ?_ ?_)
      | (with_reducible refine LeO.bind ?_ (fun _ => ?_))
      | exact ih0 _ _ _ _ _
      | exact impl_LineSteps.mono _ _ _ _ _ _ _ _
      | exact laws_plain.mono _ _ _ _ _ _ _ _
      | exact spec_Signed.mono _ _ _
      | exact spec_Unsigned.mono _ _ _
      | exact LeO.none _
      | refine LeO.ite ?_ ?_
      | refine LeO.bind ?_ (fun _ => ?_)
def heldA (ad389 : Addr) (t385 : List S41) (A393_15 A394_15 A395_15 : Option Addr) (c393_15 c394_15 c395_15 : Nat) (w' : World) : Prop := w'.cell? ad389 = some (.int .u64 ((rd_T41 t385 0).f0.f0)) ∧ w'.cell? ⟨ad389.block, ad389.off + 1, none⟩ = some (.int .i64 ((rd_T41 t385 0).f0.f1)) ∧ w'.cell? ⟨ad389.block, ad389.off + 2, none⟩ = some (.bool ((rd_T41 t385 0).f0.f2.f0)) ∧ w'.cell? ⟨ad389.block, ad389.off + 3, none⟩ = some (.string ((rd_T41 t385 0).f0.f2.f1)) ∧ w'.cell? ⟨ad389.block, ad389.off + 4, none⟩ = some (.int .u64 ((rd_T41 t385 0).f0.f2.f2)) ∧ w'.cell? ⟨ad389.block, ad389.off + 5, none⟩ = some (.int .i64 ((rd_T41 t385 0).f0.f2.f3)) ∧ w'.cell? ⟨ad389.block, ad389.off + 6, none⟩ = some (.int .i64 ((rd_T41 t385 0).f0.f3)) ∧ w'.cell? ⟨ad389.block, ad389.off + 7, none⟩ = some (.int .i64 ((rd_T41 t385 0).f0.f4)) ∧ w'.cell? ⟨ad389.block, ad389.off + 8, none⟩ = some (.bool ((rd_T41 t385 0).f0.f5)) ∧ w'.cell? ⟨ad389.block, ad389.off + 9, none⟩ = some (.bool ((rd_T41 t385 0).f0.f6)) ∧ w'.cell? ⟨ad389.block, ad389.off + 10, none⟩ = some (.bool ((rd_T41 t385 0).f0.f7)) ∧ w'.cell? ⟨ad389.block, ad389.off + 11, none⟩ = some (.bool ((rd_T41 t385 0).f0.f8)) ∧ w'.cell? ⟨ad389.block, ad389.off + 12, none⟩ = some (.int .i64 ((rd_T41 t385 0).f0.f9)) ∧ w'.cell? ⟨ad389.block, ad389.off + 13, none⟩ = some (.int .i64 ((rd_T41 t385 0).f0.f10)) ∧ w'.cell? ⟨ad389.block, ad389.off + 14, none⟩ = some (.bool true) ∧ w'.cell? ⟨ad389.block, ad389.off + 15, none⟩ = some (.slice A393_15 ((rd_T41 t385 0).f1).length c393_15) ∧ w'.cell? ⟨ad389.block, ad389.off + 16, none⟩ = some (.int .i64 ((rd_T41 t385 0).f2)) ∧ w'.cell? ⟨ad389.block, ad389.off + 17, none⟩ = some (.int .u64 ((rd_T41 t385 1).f0.f0)) ∧ w'.cell? ⟨ad389.block, ad389.off + 17 + 1, none⟩ = some (.int .i64 ((rd_T41 t385 1).f0.f1)) ∧ w'.cell? ⟨ad389.block, ad389.off + 17 + 2, none⟩ = some (.bool ((rd_T41 t385 1).f0.f2.f0)) ∧ w'.cell? ⟨ad389.block, ad389.off + 17 + 3, none⟩ = some (.string ((rd_T41 t385 1).f0.f2.f1)) ∧ w'.cell? ⟨ad389.block, ad389.off + 17 + 4, none⟩ = some (.int .u64 ((rd_T41 t385 1).f0.f2.f2)) ∧ w'.cell? ⟨ad389.block, ad389.off + 17 + 5, none⟩ = some (.int .i64 ((rd_T41 t385 1).f0.f2.f3)) ∧ w'.cell? ⟨ad389.block, ad389.off + 17 + 6, none⟩ = some (.int .i64 ((rd_T41 t385 1).f0.f3)) ∧ w'.cell? ⟨ad389.block, ad389.off + 17 + 7, none⟩ = some (.int .i64 ((rd_T41 t385 1).f0.f4)) ∧ w'.cell? ⟨ad389.block, ad389.off + 17 + 8, none⟩ = some (.bool ((rd_T41 t385 1).f0.f5)) ∧ w'.cell? ⟨ad389.block, ad389.off + 17 + 9, none⟩ = some (.bool ((rd_T41 t385 1).f0.f6)) ∧ w'.cell? ⟨ad389.block, ad389.off + 17 + 10, none⟩ = some (.bool ((rd_T41 t385 1).f0.f7)) ∧ w'.cell? ⟨ad389.block, ad389.off + 17 + 11, none⟩ = some (.bool ((rd_T41 t385 1).f0.f8)) ∧ w'.cell? ⟨ad389.block, ad389.off + 17 + 12, none⟩ = some (.int .i64 ((rd_T41 t385 1).f0.f9)) ∧ w'.cell? ⟨ad389.block, ad389.off + 17 + 13, none⟩ = some (.int .i64 ((rd_T41 t385 1).f0.f10)) ∧ w'.cell? ⟨ad389.block, ad389.off + 17 + 14, none⟩ = some (.bool ((rd_T41 t385 1).f0.f11)) ∧ w'.cell? ⟨ad389.block, ad389.off + 17 + 15, none⟩ = some (.slice A394_15 ((rd_T41 t385 1).f1).length c394_15) ∧ w'.cell? ⟨ad389.block, ad389.off + 17 + 16, none⟩ = some (.int .i64 ((rd_T41 t385 1).f2)) ∧ w'.cell? ⟨ad389.block, ad389.off + 34, none⟩ = some (.int .u64 ((rd_T41 t385 2).f0.f0)) ∧ w'.cell? ⟨ad389.block, ad389.off + 34 + 1, none⟩ = some (.int .i64 ((rd_T41 t385 2).f0.f1)) ∧ w'.cell? ⟨ad389.block, ad389.off + 34 + 2, none⟩ = some (.bool ((rd_T41 t385 2).f0.f2.f0)) ∧ w'.cell? ⟨ad389.block, ad389.off + 34 + 3, none⟩ = some (.string ((rd_T41 t385 2).f0.f2.f1)) ∧ w'.cell? ⟨ad389.block, ad389.off + 34 + 4, none⟩ = some (.int .u64 ((rd_T41 t385 2).f0.f2.f2)) ∧ w'.cell? ⟨ad389.block, ad389.off + 34 + 5, none⟩ = some (.int .i64 ((rd_T41 t385 2).f0.f2.f3)) ∧ w'.cell? ⟨ad389.block, ad389.off + 34 + 6, none⟩ = some (.int .i64 ((rd_T41 t385 2).f0.f3)) ∧ w'.cell? ⟨ad389.block, ad389.off + 34 + 7, none⟩ = some (.int .i64 ((rd_T41 t385 2).f0.f4)) ∧ w'.cell? ⟨ad389.block, ad389.off + 34 + 8, none⟩ = some (.bool ((rd_T41 t385 2).f0.f5)) ∧ w'.cell? ⟨ad389.block, ad389.off + 34 + 9, none⟩ = some (.bool ((rd_T41 t385 2).f0.f6)) ∧ w'.cell? ⟨ad389.block, ad389.off + 34 + 10, none⟩ = some (.bool ((rd_T41 t385 2).f0.f7)) ∧ w'.cell? ⟨ad389.block, ad389.off + 34 + 11, none⟩ = some (.bool ((rd_T41 t385 2).f0.f8)) ∧ w'.cell? ⟨ad389.block, ad389.off + 34 + 12, none⟩ = some (.int .i64 ((rd_T41 t385 2).f0.f9)) ∧ w'.cell? ⟨ad389.block, ad389.off + 34 + 13, none⟩ = some (.int .i64 ((rd_T41 t385 2).f0.f10)) ∧ w'.cell? ⟨ad389.block, ad389.off + 34 + 14, none⟩ = some (.bool true) ∧ w'.cell? ⟨ad389.block, ad389.off + 34 + 15, none⟩ = some (.slice A395_15 ((rd_T41 t385 2).f1).length c395_15) ∧ w'.cell? ⟨ad389.block, ad389.off + 34 + 16, none⟩ = some (.int .i64 ((rd_T41 t385 2).f2))
theorem heldA_below {ad389 : Addr} {t385 : List S41} {A393_15 A394_15 A395_15 : Option Addr} {c393_15 c394_15 c395_15 : Nat} {w w' : World} (hb : Below w.heap.size w w') (h : heldA ad389 t385 A393_15 A394_15 A395_15 c393_15 c394_15 c395_15 w) : heldA ad389 t385 A393_15 A394_15 A395_15 c393_15 c394_15 c395_15 w' := by
  obtain ⟨h0, h1, h2, h3, h4, h5, h6, h7, h8, h9, h10, h11, h12, h13, h14, h15, h16, h17, h18, h19, h20, h21, h22, h23, h24, h25, h26, h27, h28, h29, h30, h31, h32, h33, h34, h35, h36, h37, h38, h39, h40, h41, h42, h43, h44, h45, h46, h47, h48, h49, h50⟩ := h
  exact ⟨qH hb h0, qH hb h1, qH hb h2, qH hb h3, qH hb h4, qH hb h5, qH hb h6, qH hb h7, qH hb h8, qH hb h9, qH hb h10, qH hb h11, qH hb h12, qH hb h13, qH hb h14, qH hb h15, qH hb h16, qH hb h17, qH hb h18, qH hb h19, qH hb h20, qH hb h21, qH hb h22, qH hb h23, qH hb h24, qH hb h25, qH hb h26, qH hb h27, qH hb h28, qH hb h29, qH hb h30, qH hb h31, qH hb h32, qH hb h33, qH hb h34, qH hb h35, qH hb h36, qH hb h37, qH hb h38, qH hb h39, qH hb h40, qH hb h41, qH hb h42, qH hb h43, qH hb h44, qH hb h45, qH hb h46, qH hb h47, qH hb h48, qH hb h49, qH hb h50⟩
theorem heldA_of {ad389 : Addr} {t385 : List S41} {A393_15 A394_15 A395_15 : Option Addr} {c393_15 c394_15 c395_15 : Nat} {w w' : World} (e : ∀ q : Addr, q.block = ad389.block → w'.cell? q = w.cell? q) (h : heldA ad389 t385 A393_15 A394_15 A395_15 c393_15 c394_15 c395_15 w) : heldA ad389 t385 A393_15 A394_15 A395_15 c393_15 c394_15 c395_15 w' := by
  obtain ⟨h0, h1, h2, h3, h4, h5, h6, h7, h8, h9, h10, h11, h12, h13, h14, h15, h16, h17, h18, h19, h20, h21, h22, h23, h24, h25, h26, h27, h28, h29, h30, h31, h32, h33, h34, h35, h36, h37, h38, h39, h40, h41, h42, h43, h44, h45, h46, h47, h48, h49, h50⟩ := h
  exact ⟨(e _ (by rfl)).trans h0, (e _ (by rfl)).trans h1, (e _ (by rfl)).trans h2, (e _ (by rfl)).trans h3, (e _ (by rfl)).trans h4, (e _ (by rfl)).trans h5, (e _ (by rfl)).trans h6, (e _ (by rfl)).trans h7, (e _ (by rfl)).trans h8, (e _ (by rfl)).trans h9, (e _ (by rfl)).trans h10, (e _ (by rfl)).trans h11, (e _ (by rfl)).trans h12, (e _ (by rfl)).trans h13, (e _ (by rfl)).trans h14, (e _ (by rfl)).trans h15, (e _ (by rfl)).trans h16, (e _ (by rfl)).trans h17, (e _ (by rfl)).trans h18, (e _ (by rfl)).trans h19, (e _ (by rfl)).trans h20, (e _ (by rfl)).trans h21, (e _ (by rfl)).trans h22, (e _ (by rfl)).trans h23, (e _ (by rfl)).trans h24, (e _ (by rfl)).trans h25, (e _ (by rfl)).trans h26, (e _ (by rfl)).trans h27, (e _ (by rfl)).trans h28, (e _ (by rfl)).trans h29, (e _ (by rfl)).trans h30, (e _ (by rfl)).trans h31, (e _ (by rfl)).trans h32, (e _ (by rfl)).trans h33, (e _ (by rfl)).trans h34, (e _ (by rfl)).trans h35, (e _ (by rfl)).trans h36, (e _ (by rfl)).trans h37, (e _ (by rfl)).trans h38, (e _ (by rfl)).trans h39, (e _ (by rfl)).trans h40, (e _ (by rfl)).trans h41, (e _ (by rfl)).trans h42, (e _ (by rfl)).trans h43, (e _ (by rfl)).trans h44, (e _ (by rfl)).trans h45, (e _ (by rfl)).trans h46, (e _ (by rfl)).trans h47, (e _ (by rfl)).trans h48, (e _ (by rfl)).trans h49, (e _ (by rfl)).trans h50⟩
theorem srow_ {P : Program} {ops : Array Oper} {oi : Oper} {a : Act} {w : World} {K : Act → World → Prop} {Q : Exit → Act → World → Prop} (hw : Region.wanted oi (yielded ops a.tmps) = true) (hN : oi.dst = none) (ty : TypeId) (x y : Operand) (ho : oi.op = .store ty x y)
    (g : Nat) (cells : Array Value) (hx : a.eval x = .pointer (some ⟨g, 0, none⟩)) (hy : a.eval y = .agg cells) (t : TypeId) (old : Array Value) (hg : w.heap[g]? = some (.cells old t (0, 0))) (hi : (P.info? ty).map (·.size) = some cells.size)
    (hold : old.size = cells.size) (h1 : cells.all (·.oneCell') = true) (h : K a (w.setRow g cells)) : if Region.wanted oi (yielded ops a.tmps) = true then Oper.wp P oi a w K Q else K (a.put none undef) w := by
  rw [if_pos hw]
  refine wp_store_row ty x y ho g cells hx hy t old hg hi hold h1 ?_
  rw [hN]
  exact h
theorem below_srow {B g : Nat} {w0 w : World} (hb : Below B w0 w) (hBg : B ≤ g) (cs : Array Value) : Below B w0 (w.setRow g cs) := ⟨hb.os, hb.tape, hb.output, by rw [size_setRow]; exact hb.size, fun k hk => (setRow_other w g k cs (by omega)).trans (hb.block k hk)⟩
theorem heldA_row {ad389 : Addr} {t385 : List S41} {A393_15 A394_15 A395_15 : Option Addr} {c393_15 c394_15 c395_15 : Nat} {W : World} {g : Nat} {cs : Array Value} (n : ad389.block ≠ g) (h : heldA ad389 t385 A393_15 A394_15 A395_15 c393_15 c394_15 c395_15 W) : heldA ad389 t385 A393_15 A394_15 A395_15 c393_15 c394_15 c395_15 (W.setRow g cs) := heldA_of (fun q hq => cell_setRow_other W g cs q (by rw [hq]; exact n)) h
theorem heldA_ne {ad389 : Addr} {t385 : List S41} {A393_15 A394_15 A395_15 : Option Addr} {c393_15 c394_15 c395_15 : Nat} {w : World} {g : Nat} (h : heldA ad389 t385 A393_15 A394_15 A395_15 c393_15 c394_15 c395_15 w) (hg : g = w.heap.size) : ad389.block ≠ g := by
  have := World.block_lt_of_cell? _ _ h.1
  omega
def blkA (w w' : World) (ad : Addr) (g : Nat) : Prop := w'.heap[g]? = some (.cells #[.int .u64 0, .int .i64 0, .bool false, .string (⟨#[]⟩ : ByteArray), .int .u64 0, .int .i64 0, .int .i64 0, .int .i64 0, .bool false, .bool false, .bool false, .bool false, .int .i64 0, .int .i64 0, .bool false] 38 (0, 0)) ∧ w.heap.size ≤ g ∧ ad.block ≠ g
theorem blkA_below {w w1 w2 : World} {ad : Addr} {g : Nat} (hb : Below w1.heap.size w1 w2) (h : blkA w w1 ad g) : blkA w w2 ad g := ⟨blk_below h.1 hb, h.2⟩
theorem blkA_ne {w w1 : World} {ad : Addr} {g g' : Nat} (h : blkA w w1 ad g) (hg : g' = w1.heap.size) : g ≠ g' := by
  have := blk_lt h.1
  omega
def laws_FnLineAnew.T10 : Bool × List (List Nat × List Nat) := (true, [([], []), ([0], [0]), ([1], [1]), ([2], [2]), ([], []), ([4], [4]), ([5], [5]), ([6], [6]), ([], []), ([8], [8]), ([9], [9]), ([10], [10]), ([], []), ([], []), ([], []), ([12, 3, 0, 1, 2, 3, 12, 13, 14], [3, 12]), ([13, 7, 15, 0, 1, 2, 3, 4, 5, 6, 7, 12, 13, 14, 15], [7, 13]), ([14, 11, 16, 0, 1, 2, 3, 4, 5, 6, 7, 8, 9, 10, 11, 12, 13, 14, 15, 16], [11, 14])])
def laws_FnLineAnew.B10 : List Nat := [0, 1, 3, 7, 0, 16, 48, 112, 0, 256, 768, 1792, 0, 0, 0, 28687, 61695, 131071]
theorem laws_FnLineAnew.tab10 : rtab .any (opsOf Tryd.f3 10) = laws_FnLineAnew.T10 := by kernel_rfl
theorem laws_FnLineAnew.bits10 : waitsOk laws_FnLineAnew.T10.2 laws_FnLineAnew.B10 = true := by kernel_rfl
set_option maxHeartbeats 8000000 in
set_option maxRecDepth 100000 in
theorem laws_FnLineAnew.calls (k : Nat) (a0 : Int) (a1 : Int) (a2 : Int) (a3 : Int) (r : Bool) (w : World) (h : laws_FnLineAnew.f k a0 a1 a2 a3 = some r) (hG : Glob w) (hrt : r = true) :
    Calls Tryd.prog 3 #[.int .i64 a0, .int .i64 a1, .int .i64 a2, .int .u64 a3] w fun e w' => e = .returned (.bool r) ∧ Below w.heap.size w w' := by
 have HGL := Aside0.mk hG
 clear hG
 have HRT := Aside0.mk hrt
 clear hrt
 have hu38 := Tryd.underlying38
 have hu36 := Tryd.underlying36
 have HB := Aside0.mk (Below.refl w.heap.size w)
 have H : (if a0 < 0 then (laws_FnLineAnew.j0 k a0 a1 a2 a3 true) else (if a0 > 2147483648 then (laws_FnLineAnew.j0 k a0 a1 a2 a3 true) else (if a1 < 0 then (laws_FnLineAnew.j0 k a0 a1 a2 a3 true) else (if a1 > 2147483648 then (laws_FnLineAnew.j0 k a0 a1 a2 a3 true) else (if a2 < 0 then (laws_FnLineAnew.j0 k a0 a1 a2 a3 true) else (if a2 > 2147483648 then (laws_FnLineAnew.j0 k a0 a1 a2 a3 true) else (laws_FnLineAnew.j0 k a0 a1 a2 a3 (decide (a3 > 4611686018427387904))))))))) = some r := h
 clear h
 have HC5 := Aside0.mk H
 clear H
 go_enter Tryd.func3, Tryd.ntmps3
 go_upto_region 1 with (fail)
 go_cut [40] (fun v40 wc => ∃ (kq : Nat) (x40_4 : Bool), v40 = .bool x40_4 ∧ Aside0 (laws_FnLineAnew.j0 kq a0 a1 a2 a3 x40_4 = some r) ∧ Aside0 (kq ≤ k) ∧ Aside0 (Below w.heap.size w wc))
 case first =>
  have H := HC5.out
  clear HC5
  by_cases c6 : a0 < 0
  ·rw [if_pos c6] at H
   have c6b0 : decide (a0 < 0) = true := decide_eq_true c6
   clear c6
   (first | rw [c6b0] | (simp only [i64_w, i32_w]; rw [c6b0]) | skip)
   have H' := Aside0.mk H
   clear H
   go_wp2
   go_meet
   case rel => exact ⟨_, (true), (by first | rfl | (simp; done) | (simp [*]; done)), H', ⟨by first | omega | exact Nat.le_refl _⟩, ⟨by repeat (first | (with_reducible first | exact HB.out | apply below_alloc | apply pw_below_drewN | apply below_drew1) | exact HB.out)⟩⟩
  ·rw [if_neg c6] at H
   have c6b0 : decide (a0 < 0) = false := decide_eq_false c6
   clear c6
   (first | rw [c6b0] | (simp only [i64_w, i32_w]; rw [c6b0]) | skip)
   by_cases c7 : a0 > 2147483648
   ·rw [if_pos c7] at H
    have c7b0 : decide (2147483648 < a0) = true := decide_eq_true c7
    clear c7
    have H' := Aside0.mk H
    clear H
    go_wp2
    go_meet
    case rel => exact ⟨_, (true), (by first | rfl | (simp; done) | (simp [*]; done)), H', ⟨by first | omega | exact Nat.le_refl _⟩, ⟨by repeat (first | (with_reducible first | exact HB.out | apply below_alloc | apply pw_below_drewN | apply below_drew1) | exact HB.out)⟩⟩
   ·rw [if_neg c7] at H
    have c7b0 : decide (2147483648 < a0) = false := decide_eq_false c7
    clear c7
    by_cases c8 : a1 < 0
    ·rw [if_pos c8] at H
     have c8b0 : decide (a1 < 0) = true := decide_eq_true c8
     clear c8
     have H' := Aside0.mk H
     clear H
     go_wp2
     go_meet
     case rel => exact ⟨_, (true), (by first | rfl | (simp; done) | (simp [*]; done)), H', ⟨by first | omega | exact Nat.le_refl _⟩, ⟨by repeat (first | (with_reducible first | exact HB.out | apply below_alloc | apply pw_below_drewN | apply below_drew1) | exact HB.out)⟩⟩
    ·rw [if_neg c8] at H
     have c8b0 : decide (a1 < 0) = false := decide_eq_false c8
     clear c8
     by_cases c9 : a1 > 2147483648
     ·rw [if_pos c9] at H
      have c9b0 : decide (2147483648 < a1) = true := decide_eq_true c9
      clear c9
      have H' := Aside0.mk H
      clear H
      go_wp2
      go_meet
      case rel => exact ⟨_, (true), (by first | rfl | (simp; done) | (simp [*]; done)), H', ⟨by first | omega | exact Nat.le_refl _⟩, ⟨by repeat (first | (with_reducible first | exact HB.out | apply below_alloc | apply pw_below_drewN | apply below_drew1) | exact HB.out)⟩⟩
     ·rw [if_neg c9] at H
      have c9b0 : decide (2147483648 < a1) = false := decide_eq_false c9
      clear c9
      by_cases c10 : a2 < 0
      ·rw [if_pos c10] at H
       have c10b0 : decide (a2 < 0) = true := decide_eq_true c10
       clear c10
       have H' := Aside0.mk H
       clear H
       go_wp2
       go_meet
       case rel => exact ⟨_, (true), (by first | rfl | (simp; done) | (simp [*]; done)), H', ⟨by first | omega | exact Nat.le_refl _⟩, ⟨by repeat (first | (with_reducible first | exact HB.out | apply below_alloc | apply pw_below_drewN | apply below_drew1) | exact HB.out)⟩⟩
      ·rw [if_neg c10] at H
       have c10b0 : decide (a2 < 0) = false := decide_eq_false c10
       clear c10
       by_cases c11 : a2 > 2147483648
       ·rw [if_pos c11] at H
        have c11b0 : decide (2147483648 < a2) = true := decide_eq_true c11
        clear c11
        have H' := Aside0.mk H
        clear H
        go_wp2
        go_meet
        case rel => exact ⟨_, (true), (by first | rfl | (simp; done) | (simp [*]; done)), H', ⟨by first | omega | exact Nat.le_refl _⟩, ⟨by repeat (first | (with_reducible first | exact HB.out | apply below_alloc | apply pw_below_drewN | apply below_drew1) | exact HB.out)⟩⟩
       ·rw [if_neg c11] at H
        have c11b0 : decide (2147483648 < a2) = false := decide_eq_false c11
        clear c11
        have H' := Aside0.mk H
        clear H
        go_wp2
        go_meet
        case rel => exact ⟨_, (decide (a3 > 4611686018427387904)), (by first | rfl | (simp; done) | (simp [*]; done)), H', ⟨by first | omega | exact Nat.le_refl _⟩, ⟨by repeat (first | (with_reducible first | exact HB.out | apply below_alloc | apply pw_below_drewN | apply below_drew1) | exact HB.out)⟩⟩
 case rest =>
  clear HC5
  try clear c1
  try clear p2
  try clear c3
  try clear c6
  try clear c6b0
  try clear c7
  try clear c7b0
  try clear c8
  try clear c8b0
  try clear c9
  try clear c9b0
  try clear c10
  try clear c10b0
  try clear c11
  try clear c11b0
  obtain ⟨kq, x40_4, rfl, HA, HJ4, HB⟩ := hcut
  cases kq with
  | zero => exact absurd HA.out (by simp [laws_FnLineAnew.j0])
  | succ kj4 =>
   have H := HA.out
   clear HA
   simp only [laws_FnLineAnew.j0] at H
   by_cases c12 : x40_4 = true
   ·subst c12
    have H1 : (some true) = some r := by rw [if_pos rfl] at H; exact H
    clear H
    have H := H1
    clear H1
    obtain rfl := Option.some.inj H
    go_wp2
    go_ret
    exact ⟨by first | rfl | (simp [errW_none, errW_some] <;> rfl) | (simp [*, errW_none, errW_some] <;> rfl), by repeat (first | (with_reducible first | exact HB.out | apply below_alloc | apply pw_below_drewN | apply below_drew1) | exact HB.out)⟩
   ·replace c12 := Bool.eq_false_iff.mpr c12
    subst c12
    have H1 : ((some (([3] : List Int) : List Int)).bind fun y341 => ((spec_Signed.f kj4 a0 0).bind fun t344 => (if y341.length + t344.length < 140737488355328 then ((some (y341 ++ t344 : List Int)).bind fun y347 => (if y347.length < 140737488355328 then ((some (y347 ++ [5] : List Int)).bind fun y350 => ((spec_Unsigned.f kj4 (IntKind.u64.wrap (a1)) 0).bind fun t353 => (if y350.length + t353.length < 140737488355328 then ((some (y350 ++ t353 : List Int)).bind fun y356 => (if y356.length < 140737488355328 then ((some (y356 ++ [12] : List Int)).bind fun y359 => ((spec_Unsigned.f kj4 (IntKind.u64.wrap (a2)) 0).bind fun t362 => (if y359.length + t362.length < 140737488355328 then ((some (y359 ++ t362 : List Int)).bind fun y365 => ((some (([6, 7, 10, 11, 0, 1, 1, 1] : List Int) : List Int)).bind fun y368 => (if y365.length + y368.length < 140737488355328 then ((laws_usual.f).bind fun bt374 => ((laws_plain.f kj4 bt374.1 bt374.2.1 bt374.2.2.1 bt374.2.2.2.1 bt374.2.2.2.2 a3 (y365 ++ y368)).bind fun t379 => ((laws_nexts.f 4).bind fun t382 => ((impl_LineSteps.f kj4 t379 ([] : List Int) 0 8 false (⟨#[]⟩ : ByteArray) t382).bind fun bt385 => (if bt385.2 = 0 then (if (bt385.1.length : Int) = 4 then (if 0 < (bt385.1.length : Int) then (if ((rd_T41 bt385.1 0).f2) = 0 then (if 1 < (bt385.1.length : Int) then (if ((rd_T41 bt385.1 1).f2) = 0 then (if 2 < (bt385.1.length : Int) then (if ((rd_T41 bt385.1 2).f2) = 0 then (if 3 < (bt385.1.length : Int) then (if ((rd_T41 bt385.1 3).f2) = 1 then (if (rd_T41 bt385.1 0).f0.f11 = true then (if ((rd_T41 bt385.1 0).f0.f0) = a3 then (if (((rd_T41 bt385.1 1).f0.f0) == 0 && (((rd_T41 bt385.1 1).f0.f1) == 0 && ((!((rd_T41 bt385.1 1).f0.f2.f0) && ((((rd_T41 bt385.1 1).f0.f2.f1).toList) == ([47, 97] : List UInt8) && (((rd_T41 bt385.1 1).f0.f2.f2) == 0 && (((rd_T41 bt385.1 1).f0.f2.f3) == 0)))) && (((rd_T41 bt385.1 1).f0.f3) == 1 && (((rd_T41 bt385.1 1).f0.f4) == 0 && (!((rd_T41 bt385.1 1).f0.f5) && (!((rd_T41 bt385.1 1).f0.f6) && (!((rd_T41 bt385.1 1).f0.f7) && (!((rd_T41 bt385.1 1).f0.f8) && (((rd_T41 bt385.1 1).f0.f9) == 0 && (((rd_T41 bt385.1 1).f0.f10) == 0 && (!((rd_T41 bt385.1 1).f0.f11))))))))))))) = true then (if (rd_T41 bt385.1 2).f0.f11 = true then (some (((rd_T41 bt385.1 2).f0.f0) == 0)) else (some false)) else (some false)) else (some false)) else (some false)) else (some false)) else (none)) else (some false)) else (none)) else (some false)) else (none)) else (some false)) else (none)) else (some false)) else (some false)))))) else (none)))) else (none)))) else (none))) else (none)))) else (none))) else (none)))) = some r := by rw [if_neg (show ¬ (false = true) by decide)] at H; exact H
    clear H
    have H := H1
    clear H1
    obtain ⟨y341, hy341⟩ : ∃ y_ : List Int, y_ = (([3] : List Int)) := ⟨_, rfl⟩
    replace H : ((spec_Signed.f kj4 a0 0).bind fun t344 => (if y341.length + t344.length < 140737488355328 then ((some (y341 ++ t344 : List Int)).bind fun y347 => (if y347.length < 140737488355328 then ((some (y347 ++ [5] : List Int)).bind fun y350 => ((spec_Unsigned.f kj4 (IntKind.u64.wrap (a1)) 0).bind fun t353 => (if y350.length + t353.length < 140737488355328 then ((some (y350 ++ t353 : List Int)).bind fun y356 => (if y356.length < 140737488355328 then ((some (y356 ++ [12] : List Int)).bind fun y359 => ((spec_Unsigned.f kj4 (IntKind.u64.wrap (a2)) 0).bind fun t362 => (if y359.length + t362.length < 140737488355328 then ((some (y359 ++ t362 : List Int)).bind fun y365 => ((some (([6, 7, 10, 11, 0, 1, 1, 1] : List Int) : List Int)).bind fun y368 => (if y365.length + y368.length < 140737488355328 then ((laws_usual.f).bind fun bt374 => ((laws_plain.f kj4 bt374.1 bt374.2.1 bt374.2.2.1 bt374.2.2.2.1 bt374.2.2.2.2 a3 (y365 ++ y368)).bind fun t379 => ((laws_nexts.f 4).bind fun t382 => ((impl_LineSteps.f kj4 t379 ([] : List Int) 0 8 false (⟨#[]⟩ : ByteArray) t382).bind fun bt385 => (if bt385.2 = 0 then (if (bt385.1.length : Int) = 4 then (if 0 < (bt385.1.length : Int) then (if ((rd_T41 bt385.1 0).f2) = 0 then (if 1 < (bt385.1.length : Int) then (if ((rd_T41 bt385.1 1).f2) = 0 then (if 2 < (bt385.1.length : Int) then (if ((rd_T41 bt385.1 2).f2) = 0 then (if 3 < (bt385.1.length : Int) then (if ((rd_T41 bt385.1 3).f2) = 1 then (if (rd_T41 bt385.1 0).f0.f11 = true then (if ((rd_T41 bt385.1 0).f0.f0) = a3 then (if (((rd_T41 bt385.1 1).f0.f0) == 0 && (((rd_T41 bt385.1 1).f0.f1) == 0 && ((!((rd_T41 bt385.1 1).f0.f2.f0) && ((((rd_T41 bt385.1 1).f0.f2.f1).toList) == ([47, 97] : List UInt8) && (((rd_T41 bt385.1 1).f0.f2.f2) == 0 && (((rd_T41 bt385.1 1).f0.f2.f3) == 0)))) && (((rd_T41 bt385.1 1).f0.f3) == 1 && (((rd_T41 bt385.1 1).f0.f4) == 0 && (!((rd_T41 bt385.1 1).f0.f5) && (!((rd_T41 bt385.1 1).f0.f6) && (!((rd_T41 bt385.1 1).f0.f7) && (!((rd_T41 bt385.1 1).f0.f8) && (((rd_T41 bt385.1 1).f0.f9) == 0 && (((rd_T41 bt385.1 1).f0.f10) == 0 && (!((rd_T41 bt385.1 1).f0.f11))))))))))))) = true then (if (rd_T41 bt385.1 2).f0.f11 = true then (some (((rd_T41 bt385.1 2).f0.f0) == 0)) else (some false)) else (some false)) else (some false)) else (some false)) else (some false)) else (none)) else (some false)) else (none)) else (some false)) else (none)) else (some false)) else (none)) else (some false)) else (some false)))))) else (none)))) else (none)))) else (none))) else (none)))) else (none))) else (none))) = some r := by first | (rw [hy341]; with_reducible exact H) | (have H2_ := (Option.bind_some _ _).symm.trans H; rw [hy341]; with_reducible exact H2_) | (have H2_ := (Option.bind_some _ _).symm.trans H; with_reducible exact H2_) | with_reducible exact H | (rw [hy341]; exact H) | exact H
    have Ny341 := Aside0.mk hy341
    clear hy341
    replace H := Option.bind_eq_some_iff.mp H
    obtain ⟨t344, A130, H⟩ := H
    try dsimp only at H
    have A13 := Aside0.mk A130
    clear A130
    by_cases c14 : y341.length + t344.length < 140737488355328
    case neg =>
     rw [if_neg c14] at H
     exact absurd H (by simp)
    rw [if_pos c14] at H
    have LMc14 := Aside0.mk c14
    clear c14
    obtain ⟨y347, hy347⟩ : ∃ y_ : List Int, y_ = (y341 ++ t344) := ⟨_, rfl⟩
    replace H : (if y347.length < 140737488355328 then ((some (y347 ++ [5] : List Int)).bind fun y350 => ((spec_Unsigned.f kj4 (IntKind.u64.wrap (a1)) 0).bind fun t353 => (if y350.length + t353.length < 140737488355328 then ((some (y350 ++ t353 : List Int)).bind fun y356 => (if y356.length < 140737488355328 then ((some (y356 ++ [12] : List Int)).bind fun y359 => ((spec_Unsigned.f kj4 (IntKind.u64.wrap (a2)) 0).bind fun t362 => (if y359.length + t362.length < 140737488355328 then ((some (y359 ++ t362 : List Int)).bind fun y365 => ((some (([6, 7, 10, 11, 0, 1, 1, 1] : List Int) : List Int)).bind fun y368 => (if y365.length + y368.length < 140737488355328 then ((laws_usual.f).bind fun bt374 => ((laws_plain.f kj4 bt374.1 bt374.2.1 bt374.2.2.1 bt374.2.2.2.1 bt374.2.2.2.2 a3 (y365 ++ y368)).bind fun t379 => ((laws_nexts.f 4).bind fun t382 => ((impl_LineSteps.f kj4 t379 ([] : List Int) 0 8 false (⟨#[]⟩ : ByteArray) t382).bind fun bt385 => (if bt385.2 = 0 then (if (bt385.1.length : Int) = 4 then (if 0 < (bt385.1.length : Int) then (if ((rd_T41 bt385.1 0).f2) = 0 then (if 1 < (bt385.1.length : Int) then (if ((rd_T41 bt385.1 1).f2) = 0 then (if 2 < (bt385.1.length : Int) then (if ((rd_T41 bt385.1 2).f2) = 0 then (if 3 < (bt385.1.length : Int) then (if ((rd_T41 bt385.1 3).f2) = 1 then (if (rd_T41 bt385.1 0).f0.f11 = true then (if ((rd_T41 bt385.1 0).f0.f0) = a3 then (if (((rd_T41 bt385.1 1).f0.f0) == 0 && (((rd_T41 bt385.1 1).f0.f1) == 0 && ((!((rd_T41 bt385.1 1).f0.f2.f0) && ((((rd_T41 bt385.1 1).f0.f2.f1).toList) == ([47, 97] : List UInt8) && (((rd_T41 bt385.1 1).f0.f2.f2) == 0 && (((rd_T41 bt385.1 1).f0.f2.f3) == 0)))) && (((rd_T41 bt385.1 1).f0.f3) == 1 && (((rd_T41 bt385.1 1).f0.f4) == 0 && (!((rd_T41 bt385.1 1).f0.f5) && (!((rd_T41 bt385.1 1).f0.f6) && (!((rd_T41 bt385.1 1).f0.f7) && (!((rd_T41 bt385.1 1).f0.f8) && (((rd_T41 bt385.1 1).f0.f9) == 0 && (((rd_T41 bt385.1 1).f0.f10) == 0 && (!((rd_T41 bt385.1 1).f0.f11))))))))))))) = true then (if (rd_T41 bt385.1 2).f0.f11 = true then (some (((rd_T41 bt385.1 2).f0.f0) == 0)) else (some false)) else (some false)) else (some false)) else (some false)) else (some false)) else (none)) else (some false)) else (none)) else (some false)) else (none)) else (some false)) else (none)) else (some false)) else (some false)))))) else (none)))) else (none)))) else (none))) else (none)))) else (none)) = some r := by first | (rw [hy347]; with_reducible exact H) | (have H2_ := (Option.bind_some _ _).symm.trans H; rw [hy347]; with_reducible exact H2_) | (have H2_ := (Option.bind_some _ _).symm.trans H; with_reducible exact H2_) | with_reducible exact H | (rw [hy347]; exact H) | exact H
    have Ny347 := Aside0.mk hy347
    clear hy347
    by_cases c15 : y347.length < 140737488355328
    case neg =>
     rw [if_neg c15] at H
     exact absurd H (by simp)
    rw [if_pos c15] at H
    have LMc15 := Aside0.mk c15
    clear c15
    obtain ⟨y350, hy350⟩ : ∃ y_ : List Int, y_ = (y347 ++ [5]) := ⟨_, rfl⟩
    replace H : ((spec_Unsigned.f kj4 (IntKind.u64.wrap (a1)) 0).bind fun t353 => (if y350.length + t353.length < 140737488355328 then ((some (y350 ++ t353 : List Int)).bind fun y356 => (if y356.length < 140737488355328 then ((some (y356 ++ [12] : List Int)).bind fun y359 => ((spec_Unsigned.f kj4 (IntKind.u64.wrap (a2)) 0).bind fun t362 => (if y359.length + t362.length < 140737488355328 then ((some (y359 ++ t362 : List Int)).bind fun y365 => ((some (([6, 7, 10, 11, 0, 1, 1, 1] : List Int) : List Int)).bind fun y368 => (if y365.length + y368.length < 140737488355328 then ((laws_usual.f).bind fun bt374 => ((laws_plain.f kj4 bt374.1 bt374.2.1 bt374.2.2.1 bt374.2.2.2.1 bt374.2.2.2.2 a3 (y365 ++ y368)).bind fun t379 => ((laws_nexts.f 4).bind fun t382 => ((impl_LineSteps.f kj4 t379 ([] : List Int) 0 8 false (⟨#[]⟩ : ByteArray) t382).bind fun bt385 => (if bt385.2 = 0 then (if (bt385.1.length : Int) = 4 then (if 0 < (bt385.1.length : Int) then (if ((rd_T41 bt385.1 0).f2) = 0 then (if 1 < (bt385.1.length : Int) then (if ((rd_T41 bt385.1 1).f2) = 0 then (if 2 < (bt385.1.length : Int) then (if ((rd_T41 bt385.1 2).f2) = 0 then (if 3 < (bt385.1.length : Int) then (if ((rd_T41 bt385.1 3).f2) = 1 then (if (rd_T41 bt385.1 0).f0.f11 = true then (if ((rd_T41 bt385.1 0).f0.f0) = a3 then (if (((rd_T41 bt385.1 1).f0.f0) == 0 && (((rd_T41 bt385.1 1).f0.f1) == 0 && ((!((rd_T41 bt385.1 1).f0.f2.f0) && ((((rd_T41 bt385.1 1).f0.f2.f1).toList) == ([47, 97] : List UInt8) && (((rd_T41 bt385.1 1).f0.f2.f2) == 0 && (((rd_T41 bt385.1 1).f0.f2.f3) == 0)))) && (((rd_T41 bt385.1 1).f0.f3) == 1 && (((rd_T41 bt385.1 1).f0.f4) == 0 && (!((rd_T41 bt385.1 1).f0.f5) && (!((rd_T41 bt385.1 1).f0.f6) && (!((rd_T41 bt385.1 1).f0.f7) && (!((rd_T41 bt385.1 1).f0.f8) && (((rd_T41 bt385.1 1).f0.f9) == 0 && (((rd_T41 bt385.1 1).f0.f10) == 0 && (!((rd_T41 bt385.1 1).f0.f11))))))))))))) = true then (if (rd_T41 bt385.1 2).f0.f11 = true then (some (((rd_T41 bt385.1 2).f0.f0) == 0)) else (some false)) else (some false)) else (some false)) else (some false)) else (some false)) else (none)) else (some false)) else (none)) else (some false)) else (none)) else (some false)) else (none)) else (some false)) else (some false)))))) else (none)))) else (none)))) else (none))) else (none))) = some r := by first | (rw [hy350]; with_reducible exact H) | (have H2_ := (Option.bind_some _ _).symm.trans H; rw [hy350]; with_reducible exact H2_) | (have H2_ := (Option.bind_some _ _).symm.trans H; with_reducible exact H2_) | with_reducible exact H | (rw [hy350]; exact H) | exact H
    have Ny350 := Aside0.mk hy350
    clear hy350
    replace H := Option.bind_eq_some_iff.mp H
    obtain ⟨t353, A160, H⟩ := H
    try dsimp only at H
    have A16 := Aside0.mk A160
    clear A160
    by_cases c17 : y350.length + t353.length < 140737488355328
    case neg =>
     rw [if_neg c17] at H
     exact absurd H (by simp)
    rw [if_pos c17] at H
    have LMc17 := Aside0.mk c17
    clear c17
    obtain ⟨y356, hy356⟩ : ∃ y_ : List Int, y_ = (y350 ++ t353) := ⟨_, rfl⟩
    replace H : (if y356.length < 140737488355328 then ((some (y356 ++ [12] : List Int)).bind fun y359 => ((spec_Unsigned.f kj4 (IntKind.u64.wrap (a2)) 0).bind fun t362 => (if y359.length + t362.length < 140737488355328 then ((some (y359 ++ t362 : List Int)).bind fun y365 => ((some (([6, 7, 10, 11, 0, 1, 1, 1] : List Int) : List Int)).bind fun y368 => (if y365.length + y368.length < 140737488355328 then ((laws_usual.f).bind fun bt374 => ((laws_plain.f kj4 bt374.1 bt374.2.1 bt374.2.2.1 bt374.2.2.2.1 bt374.2.2.2.2 a3 (y365 ++ y368)).bind fun t379 => ((laws_nexts.f 4).bind fun t382 => ((impl_LineSteps.f kj4 t379 ([] : List Int) 0 8 false (⟨#[]⟩ : ByteArray) t382).bind fun bt385 => (if bt385.2 = 0 then (if (bt385.1.length : Int) = 4 then (if 0 < (bt385.1.length : Int) then (if ((rd_T41 bt385.1 0).f2) = 0 then (if 1 < (bt385.1.length : Int) then (if ((rd_T41 bt385.1 1).f2) = 0 then (if 2 < (bt385.1.length : Int) then (if ((rd_T41 bt385.1 2).f2) = 0 then (if 3 < (bt385.1.length : Int) then (if ((rd_T41 bt385.1 3).f2) = 1 then (if (rd_T41 bt385.1 0).f0.f11 = true then (if ((rd_T41 bt385.1 0).f0.f0) = a3 then (if (((rd_T41 bt385.1 1).f0.f0) == 0 && (((rd_T41 bt385.1 1).f0.f1) == 0 && ((!((rd_T41 bt385.1 1).f0.f2.f0) && ((((rd_T41 bt385.1 1).f0.f2.f1).toList) == ([47, 97] : List UInt8) && (((rd_T41 bt385.1 1).f0.f2.f2) == 0 && (((rd_T41 bt385.1 1).f0.f2.f3) == 0)))) && (((rd_T41 bt385.1 1).f0.f3) == 1 && (((rd_T41 bt385.1 1).f0.f4) == 0 && (!((rd_T41 bt385.1 1).f0.f5) && (!((rd_T41 bt385.1 1).f0.f6) && (!((rd_T41 bt385.1 1).f0.f7) && (!((rd_T41 bt385.1 1).f0.f8) && (((rd_T41 bt385.1 1).f0.f9) == 0 && (((rd_T41 bt385.1 1).f0.f10) == 0 && (!((rd_T41 bt385.1 1).f0.f11))))))))))))) = true then (if (rd_T41 bt385.1 2).f0.f11 = true then (some (((rd_T41 bt385.1 2).f0.f0) == 0)) else (some false)) else (some false)) else (some false)) else (some false)) else (some false)) else (none)) else (some false)) else (none)) else (some false)) else (none)) else (some false)) else (none)) else (some false)) else (some false)))))) else (none)))) else (none)))) else (none)) = some r := by first | (rw [hy356]; with_reducible exact H) | (have H2_ := (Option.bind_some _ _).symm.trans H; rw [hy356]; with_reducible exact H2_) | (have H2_ := (Option.bind_some _ _).symm.trans H; with_reducible exact H2_) | with_reducible exact H | (rw [hy356]; exact H) | exact H
    have Ny356 := Aside0.mk hy356
    clear hy356
    by_cases c18 : y356.length < 140737488355328
    case neg =>
     rw [if_neg c18] at H
     exact absurd H (by simp)
    rw [if_pos c18] at H
    have LMc18 := Aside0.mk c18
    clear c18
    obtain ⟨y359, hy359⟩ : ∃ y_ : List Int, y_ = (y356 ++ [12]) := ⟨_, rfl⟩
    replace H : ((spec_Unsigned.f kj4 (IntKind.u64.wrap (a2)) 0).bind fun t362 => (if y359.length + t362.length < 140737488355328 then ((some (y359 ++ t362 : List Int)).bind fun y365 => ((some (([6, 7, 10, 11, 0, 1, 1, 1] : List Int) : List Int)).bind fun y368 => (if y365.length + y368.length < 140737488355328 then ((laws_usual.f).bind fun bt374 => ((laws_plain.f kj4 bt374.1 bt374.2.1 bt374.2.2.1 bt374.2.2.2.1 bt374.2.2.2.2 a3 (y365 ++ y368)).bind fun t379 => ((laws_nexts.f 4).bind fun t382 => ((impl_LineSteps.f kj4 t379 ([] : List Int) 0 8 false (⟨#[]⟩ : ByteArray) t382).bind fun bt385 => (if bt385.2 = 0 then (if (bt385.1.length : Int) = 4 then (if 0 < (bt385.1.length : Int) then (if ((rd_T41 bt385.1 0).f2) = 0 then (if 1 < (bt385.1.length : Int) then (if ((rd_T41 bt385.1 1).f2) = 0 then (if 2 < (bt385.1.length : Int) then (if ((rd_T41 bt385.1 2).f2) = 0 then (if 3 < (bt385.1.length : Int) then (if ((rd_T41 bt385.1 3).f2) = 1 then (if (rd_T41 bt385.1 0).f0.f11 = true then (if ((rd_T41 bt385.1 0).f0.f0) = a3 then (if (((rd_T41 bt385.1 1).f0.f0) == 0 && (((rd_T41 bt385.1 1).f0.f1) == 0 && ((!((rd_T41 bt385.1 1).f0.f2.f0) && ((((rd_T41 bt385.1 1).f0.f2.f1).toList) == ([47, 97] : List UInt8) && (((rd_T41 bt385.1 1).f0.f2.f2) == 0 && (((rd_T41 bt385.1 1).f0.f2.f3) == 0)))) && (((rd_T41 bt385.1 1).f0.f3) == 1 && (((rd_T41 bt385.1 1).f0.f4) == 0 && (!((rd_T41 bt385.1 1).f0.f5) && (!((rd_T41 bt385.1 1).f0.f6) && (!((rd_T41 bt385.1 1).f0.f7) && (!((rd_T41 bt385.1 1).f0.f8) && (((rd_T41 bt385.1 1).f0.f9) == 0 && (((rd_T41 bt385.1 1).f0.f10) == 0 && (!((rd_T41 bt385.1 1).f0.f11))))))))))))) = true then (if (rd_T41 bt385.1 2).f0.f11 = true then (some (((rd_T41 bt385.1 2).f0.f0) == 0)) else (some false)) else (some false)) else (some false)) else (some false)) else (some false)) else (none)) else (some false)) else (none)) else (some false)) else (none)) else (some false)) else (none)) else (some false)) else (some false)))))) else (none)))) else (none))) = some r := by first | (rw [hy359]; with_reducible exact H) | (have H2_ := (Option.bind_some _ _).symm.trans H; rw [hy359]; with_reducible exact H2_) | (have H2_ := (Option.bind_some _ _).symm.trans H; with_reducible exact H2_) | with_reducible exact H | (rw [hy359]; exact H) | exact H
    have Ny359 := Aside0.mk hy359
    clear hy359
    replace H := Option.bind_eq_some_iff.mp H
    obtain ⟨t362, A190, H⟩ := H
    try dsimp only at H
    have A19 := Aside0.mk A190
    clear A190
    by_cases c20 : y359.length + t362.length < 140737488355328
    case neg =>
     rw [if_neg c20] at H
     exact absurd H (by simp)
    rw [if_pos c20] at H
    have LMc20 := Aside0.mk c20
    clear c20
    obtain ⟨y365, hy365⟩ : ∃ y_ : List Int, y_ = (y359 ++ t362) := ⟨_, rfl⟩
    replace H : ((some (([6, 7, 10, 11, 0, 1, 1, 1] : List Int) : List Int)).bind fun y368 => (if y365.length + y368.length < 140737488355328 then ((laws_usual.f).bind fun bt374 => ((laws_plain.f kj4 bt374.1 bt374.2.1 bt374.2.2.1 bt374.2.2.2.1 bt374.2.2.2.2 a3 (y365 ++ y368)).bind fun t379 => ((laws_nexts.f 4).bind fun t382 => ((impl_LineSteps.f kj4 t379 ([] : List Int) 0 8 false (⟨#[]⟩ : ByteArray) t382).bind fun bt385 => (if bt385.2 = 0 then (if (bt385.1.length : Int) = 4 then (if 0 < (bt385.1.length : Int) then (if ((rd_T41 bt385.1 0).f2) = 0 then (if 1 < (bt385.1.length : Int) then (if ((rd_T41 bt385.1 1).f2) = 0 then (if 2 < (bt385.1.length : Int) then (if ((rd_T41 bt385.1 2).f2) = 0 then (if 3 < (bt385.1.length : Int) then (if ((rd_T41 bt385.1 3).f2) = 1 then (if (rd_T41 bt385.1 0).f0.f11 = true then (if ((rd_T41 bt385.1 0).f0.f0) = a3 then (if (((rd_T41 bt385.1 1).f0.f0) == 0 && (((rd_T41 bt385.1 1).f0.f1) == 0 && ((!((rd_T41 bt385.1 1).f0.f2.f0) && ((((rd_T41 bt385.1 1).f0.f2.f1).toList) == ([47, 97] : List UInt8) && (((rd_T41 bt385.1 1).f0.f2.f2) == 0 && (((rd_T41 bt385.1 1).f0.f2.f3) == 0)))) && (((rd_T41 bt385.1 1).f0.f3) == 1 && (((rd_T41 bt385.1 1).f0.f4) == 0 && (!((rd_T41 bt385.1 1).f0.f5) && (!((rd_T41 bt385.1 1).f0.f6) && (!((rd_T41 bt385.1 1).f0.f7) && (!((rd_T41 bt385.1 1).f0.f8) && (((rd_T41 bt385.1 1).f0.f9) == 0 && (((rd_T41 bt385.1 1).f0.f10) == 0 && (!((rd_T41 bt385.1 1).f0.f11))))))))))))) = true then (if (rd_T41 bt385.1 2).f0.f11 = true then (some (((rd_T41 bt385.1 2).f0.f0) == 0)) else (some false)) else (some false)) else (some false)) else (some false)) else (some false)) else (none)) else (some false)) else (none)) else (some false)) else (none)) else (some false)) else (none)) else (some false)) else (some false)))))) else (none))) = some r := by first | (rw [hy365]; with_reducible exact H) | (have H2_ := (Option.bind_some _ _).symm.trans H; rw [hy365]; with_reducible exact H2_) | (have H2_ := (Option.bind_some _ _).symm.trans H; with_reducible exact H2_) | with_reducible exact H | (rw [hy365]; exact H) | exact H
    have Ny365 := Aside0.mk hy365
    clear hy365
    obtain ⟨y368, hy368⟩ : ∃ y_ : List Int, y_ = (([6, 7, 10, 11, 0, 1, 1, 1] : List Int)) := ⟨_, rfl⟩
    replace H : (if y365.length + y368.length < 140737488355328 then ((laws_usual.f).bind fun bt374 => ((laws_plain.f kj4 bt374.1 bt374.2.1 bt374.2.2.1 bt374.2.2.2.1 bt374.2.2.2.2 a3 (y365 ++ y368)).bind fun t379 => ((laws_nexts.f 4).bind fun t382 => ((impl_LineSteps.f kj4 t379 ([] : List Int) 0 8 false (⟨#[]⟩ : ByteArray) t382).bind fun bt385 => (if bt385.2 = 0 then (if (bt385.1.length : Int) = 4 then (if 0 < (bt385.1.length : Int) then (if ((rd_T41 bt385.1 0).f2) = 0 then (if 1 < (bt385.1.length : Int) then (if ((rd_T41 bt385.1 1).f2) = 0 then (if 2 < (bt385.1.length : Int) then (if ((rd_T41 bt385.1 2).f2) = 0 then (if 3 < (bt385.1.length : Int) then (if ((rd_T41 bt385.1 3).f2) = 1 then (if (rd_T41 bt385.1 0).f0.f11 = true then (if ((rd_T41 bt385.1 0).f0.f0) = a3 then (if (((rd_T41 bt385.1 1).f0.f0) == 0 && (((rd_T41 bt385.1 1).f0.f1) == 0 && ((!((rd_T41 bt385.1 1).f0.f2.f0) && ((((rd_T41 bt385.1 1).f0.f2.f1).toList) == ([47, 97] : List UInt8) && (((rd_T41 bt385.1 1).f0.f2.f2) == 0 && (((rd_T41 bt385.1 1).f0.f2.f3) == 0)))) && (((rd_T41 bt385.1 1).f0.f3) == 1 && (((rd_T41 bt385.1 1).f0.f4) == 0 && (!((rd_T41 bt385.1 1).f0.f5) && (!((rd_T41 bt385.1 1).f0.f6) && (!((rd_T41 bt385.1 1).f0.f7) && (!((rd_T41 bt385.1 1).f0.f8) && (((rd_T41 bt385.1 1).f0.f9) == 0 && (((rd_T41 bt385.1 1).f0.f10) == 0 && (!((rd_T41 bt385.1 1).f0.f11))))))))))))) = true then (if (rd_T41 bt385.1 2).f0.f11 = true then (some (((rd_T41 bt385.1 2).f0.f0) == 0)) else (some false)) else (some false)) else (some false)) else (some false)) else (some false)) else (none)) else (some false)) else (none)) else (some false)) else (none)) else (some false)) else (none)) else (some false)) else (some false)))))) else (none)) = some r := by first | (rw [hy368]; with_reducible exact H) | (have H2_ := (Option.bind_some _ _).symm.trans H; rw [hy368]; with_reducible exact H2_) | (have H2_ := (Option.bind_some _ _).symm.trans H; with_reducible exact H2_) | with_reducible exact H | (rw [hy368]; exact H) | exact H
    have Ny368 := Aside0.mk hy368
    clear hy368
    by_cases c21 : y365.length + y368.length < 140737488355328
    case neg =>
     rw [if_neg c21] at H
     exact absurd H (by simp)
    rw [if_pos c21] at H
    have LMc21 := Aside0.mk c21
    clear c21
    obtain ⟨y371, hy371⟩ : ∃ y_ : List Int, y_ = (y365 ++ y368) := ⟨_, rfl⟩
    replace H : ((laws_usual.f).bind fun bt374 => ((laws_plain.f kj4 bt374.1 bt374.2.1 bt374.2.2.1 bt374.2.2.2.1 bt374.2.2.2.2 a3 y371).bind fun t379 => ((laws_nexts.f 4).bind fun t382 => ((impl_LineSteps.f kj4 t379 ([] : List Int) 0 8 false (⟨#[]⟩ : ByteArray) t382).bind fun bt385 => (if bt385.2 = 0 then (if (bt385.1.length : Int) = 4 then (if 0 < (bt385.1.length : Int) then (if ((rd_T41 bt385.1 0).f2) = 0 then (if 1 < (bt385.1.length : Int) then (if ((rd_T41 bt385.1 1).f2) = 0 then (if 2 < (bt385.1.length : Int) then (if ((rd_T41 bt385.1 2).f2) = 0 then (if 3 < (bt385.1.length : Int) then (if ((rd_T41 bt385.1 3).f2) = 1 then (if (rd_T41 bt385.1 0).f0.f11 = true then (if ((rd_T41 bt385.1 0).f0.f0) = a3 then (if (((rd_T41 bt385.1 1).f0.f0) == 0 && (((rd_T41 bt385.1 1).f0.f1) == 0 && ((!((rd_T41 bt385.1 1).f0.f2.f0) && ((((rd_T41 bt385.1 1).f0.f2.f1).toList) == ([47, 97] : List UInt8) && (((rd_T41 bt385.1 1).f0.f2.f2) == 0 && (((rd_T41 bt385.1 1).f0.f2.f3) == 0)))) && (((rd_T41 bt385.1 1).f0.f3) == 1 && (((rd_T41 bt385.1 1).f0.f4) == 0 && (!((rd_T41 bt385.1 1).f0.f5) && (!((rd_T41 bt385.1 1).f0.f6) && (!((rd_T41 bt385.1 1).f0.f7) && (!((rd_T41 bt385.1 1).f0.f8) && (((rd_T41 bt385.1 1).f0.f9) == 0 && (((rd_T41 bt385.1 1).f0.f10) == 0 && (!((rd_T41 bt385.1 1).f0.f11))))))))))))) = true then (if (rd_T41 bt385.1 2).f0.f11 = true then (some (((rd_T41 bt385.1 2).f0.f0) == 0)) else (some false)) else (some false)) else (some false)) else (some false)) else (some false)) else (none)) else (some false)) else (none)) else (some false)) else (none)) else (some false)) else (none)) else (some false)) else (some false)))))) = some r := by first | (rw [hy371]; with_reducible exact H) | (have H2_ := (Option.bind_some _ _).symm.trans H; rw [hy371]; with_reducible exact H2_) | (have H2_ := (Option.bind_some _ _).symm.trans H; with_reducible exact H2_) | with_reducible exact H | (rw [hy371]; exact H) | exact H
    have Ny371 := Aside0.mk hy371
    clear hy371
    replace H := Option.bind_eq_some_iff.mp H
    obtain ⟨⟨t374, t375, t376, t377, t378⟩, A220, H⟩ := H
    try dsimp only at H
    have A22 := Aside0.mk A220
    clear A220
    replace H := Option.bind_eq_some_iff.mp H
    obtain ⟨t379, A230, H⟩ := H
    try dsimp only at H
    have A23 := Aside0.mk A230
    clear A230
    replace H := Option.bind_eq_some_iff.mp H
    obtain ⟨t382, A240, H⟩ := H
    try dsimp only at H
    have A24 := Aside0.mk A240
    clear A240
    replace H := Option.bind_eq_some_iff.mp H
    obtain ⟨⟨t385, t386⟩, A250, H⟩ := H
    try dsimp only at H
    have A25 := Aside0.mk A250
    clear A250
    by_cases c26 : t386 = 0
    case neg =>
     rw [if_neg c26] at H
     exact absurd (Option.some.inj H) (by rw [HRT.out]; decide)
    rw [if_pos c26] at H
    have c26b0 : (t386 == 0) = true := beq_iff_eq.mpr c26
    have c26b1 : (t386 != 0) = false := bne_eq_false_iff_eq.mpr c26
    clear c26
    by_cases c27 : (t385.length : Int) = 4
    case neg =>
     rw [if_neg c27] at H
     exact absurd (Option.some.inj H) (by rw [HRT.out]; decide)
    rw [if_pos c27] at H
    have c27b0 : ((t385.length : Int) == 4) = true := beq_iff_eq.mpr c27
    have c27b1 : ((t385.length : Int) != 4) = false := bne_eq_false_iff_eq.mpr c27
    clear c27
    by_cases c28 : 0 < (t385.length : Int)
    case neg =>
     rw [if_neg c28] at H
     exact absurd H (by simp)
    rw [if_pos c28] at H
    have c28b0 : decide (0 < (t385.length : Int)) = true := decide_eq_true c28
    have c28b1 : decide (0 < t385.length) = true := decide_eq_true (by omega)
    clear c28
    by_cases c29 : ((rd_T41 t385 0).f2) = 0
    case neg =>
     rw [if_neg c29] at H
     exact absurd (Option.some.inj H) (by rw [HRT.out]; decide)
    rw [if_pos c29] at H
    have c29b0 : (((rd_T41 t385 0).f2) == 0) = true := beq_iff_eq.mpr c29
    have c29b1 : (((rd_T41 t385 0).f2) != 0) = false := bne_eq_false_iff_eq.mpr c29
    clear c29
    by_cases c30 : 1 < (t385.length : Int)
    case neg =>
     rw [if_neg c30] at H
     exact absurd H (by simp)
    rw [if_pos c30] at H
    have c30b0 : decide (1 < (t385.length : Int)) = true := decide_eq_true c30
    have c30b1 : decide (1 < t385.length) = true := decide_eq_true (by omega)
    clear c30
    by_cases c31 : ((rd_T41 t385 1).f2) = 0
    case neg =>
     rw [if_neg c31] at H
     exact absurd (Option.some.inj H) (by rw [HRT.out]; decide)
    rw [if_pos c31] at H
    have c31b0 : (((rd_T41 t385 1).f2) == 0) = true := beq_iff_eq.mpr c31
    have c31b1 : (((rd_T41 t385 1).f2) != 0) = false := bne_eq_false_iff_eq.mpr c31
    clear c31
    by_cases c32 : 2 < (t385.length : Int)
    case neg =>
     rw [if_neg c32] at H
     exact absurd H (by simp)
    rw [if_pos c32] at H
    have c32b0 : decide (2 < (t385.length : Int)) = true := decide_eq_true c32
    have c32b1 : decide (2 < t385.length) = true := decide_eq_true (by omega)
    clear c32
    by_cases c33 : ((rd_T41 t385 2).f2) = 0
    case neg =>
     rw [if_neg c33] at H
     exact absurd (Option.some.inj H) (by rw [HRT.out]; decide)
    rw [if_pos c33] at H
    have c33b0 : (((rd_T41 t385 2).f2) == 0) = true := beq_iff_eq.mpr c33
    have c33b1 : (((rd_T41 t385 2).f2) != 0) = false := bne_eq_false_iff_eq.mpr c33
    clear c33
    by_cases c34 : 3 < (t385.length : Int)
    case neg =>
     rw [if_neg c34] at H
     exact absurd H (by simp)
    rw [if_pos c34] at H
    have c34b0 : decide (3 < (t385.length : Int)) = true := decide_eq_true c34
    have c34b1 : decide (3 < t385.length) = true := decide_eq_true (by omega)
    clear c34
    by_cases c35 : ((rd_T41 t385 3).f2) = 1
    case neg =>
     rw [if_neg c35] at H
     exact absurd (Option.some.inj H) (by rw [HRT.out]; decide)
    rw [if_pos c35] at H
    have c35b0 : (((rd_T41 t385 3).f2) == 1) = true := beq_iff_eq.mpr c35
    have c35b1 : (((rd_T41 t385 3).f2) != 1) = false := bne_eq_false_iff_eq.mpr c35
    clear c35
    obtain ⟨bq36, hbq36⟩ : ∃ b_ : Bool, b_ = ((rd_T41 t385 0).f0.f11) := ⟨_, rfl⟩
    replace H : (if bq36 = true then (if ((rd_T41 t385 0).f0.f0) = a3 then (if (((rd_T41 t385 1).f0.f0) == 0 && (((rd_T41 t385 1).f0.f1) == 0 && ((!((rd_T41 t385 1).f0.f2.f0) && ((((rd_T41 t385 1).f0.f2.f1).toList) == ([47, 97] : List UInt8) && (((rd_T41 t385 1).f0.f2.f2) == 0 && (((rd_T41 t385 1).f0.f2.f3) == 0)))) && (((rd_T41 t385 1).f0.f3) == 1 && (((rd_T41 t385 1).f0.f4) == 0 && (!((rd_T41 t385 1).f0.f5) && (!((rd_T41 t385 1).f0.f6) && (!((rd_T41 t385 1).f0.f7) && (!((rd_T41 t385 1).f0.f8) && (((rd_T41 t385 1).f0.f9) == 0 && (((rd_T41 t385 1).f0.f10) == 0 && (!((rd_T41 t385 1).f0.f11))))))))))))) = true then (if (rd_T41 t385 2).f0.f11 = true then (some (((rd_T41 t385 2).f0.f0) == 0)) else (some false)) else (some false)) else (some false)) else (some false)) = some r := by rw [← hbq36] at H; exact H
    have Nbq36 := Aside0.mk hbq36
    clear hbq36
    by_cases c37 : bq36 = true
    case neg =>
     replace c37 := Bool.eq_false_iff.mpr c37
     subst c37
     have H1 : (some false) = some r := by rw [if_neg (show ¬ (false = true) by decide)] at H; exact H
     clear H
     have H := H1
     clear H1
     exact absurd (Option.some.inj H) (by rw [HRT.out]; decide)
    subst c37
    have H1 : (if ((rd_T41 t385 0).f0.f0) = a3 then (if (((rd_T41 t385 1).f0.f0) == 0 && (((rd_T41 t385 1).f0.f1) == 0 && ((!((rd_T41 t385 1).f0.f2.f0) && ((((rd_T41 t385 1).f0.f2.f1).toList) == ([47, 97] : List UInt8) && (((rd_T41 t385 1).f0.f2.f2) == 0 && (((rd_T41 t385 1).f0.f2.f3) == 0)))) && (((rd_T41 t385 1).f0.f3) == 1 && (((rd_T41 t385 1).f0.f4) == 0 && (!((rd_T41 t385 1).f0.f5) && (!((rd_T41 t385 1).f0.f6) && (!((rd_T41 t385 1).f0.f7) && (!((rd_T41 t385 1).f0.f8) && (((rd_T41 t385 1).f0.f9) == 0 && (((rd_T41 t385 1).f0.f10) == 0 && (!((rd_T41 t385 1).f0.f11))))))))))))) = true then (if (rd_T41 t385 2).f0.f11 = true then (some (((rd_T41 t385 2).f0.f0) == 0)) else (some false)) else (some false)) else (some false)) = some r := by rw [if_pos rfl] at H; exact H
    clear H
    have H := H1
    clear H1
    by_cases c38 : ((rd_T41 t385 0).f0.f0) = a3
    case neg =>
     rw [if_neg c38] at H
     exact absurd (Option.some.inj H) (by rw [HRT.out]; decide)
    rw [if_pos c38] at H
    have c38b0 : (((rd_T41 t385 0).f0.f0) == a3) = true := beq_iff_eq.mpr c38
    have c38b1 : (((rd_T41 t385 0).f0.f0) != a3) = false := bne_eq_false_iff_eq.mpr c38
    clear c38
    by_cases c39 : (((rd_T41 t385 1).f0.f0) == 0 && (((rd_T41 t385 1).f0.f1) == 0 && ((!((rd_T41 t385 1).f0.f2.f0) && ((((rd_T41 t385 1).f0.f2.f1).toList) == ([47, 97] : List UInt8) && (((rd_T41 t385 1).f0.f2.f2) == 0 && (((rd_T41 t385 1).f0.f2.f3) == 0)))) && (((rd_T41 t385 1).f0.f3) == 1 && (((rd_T41 t385 1).f0.f4) == 0 && (!((rd_T41 t385 1).f0.f5) && (!((rd_T41 t385 1).f0.f6) && (!((rd_T41 t385 1).f0.f7) && (!((rd_T41 t385 1).f0.f8) && (((rd_T41 t385 1).f0.f9) == 0 && (((rd_T41 t385 1).f0.f10) == 0 && (!((rd_T41 t385 1).f0.f11))))))))))))) = true
    case neg =>
     rw [if_neg c39] at H
     exact absurd (Option.some.inj H) (by rw [HRT.out]; decide)
    rw [if_pos c39] at H
    have c39b0 : (((rd_T41 t385 1).f0.f0) == 0 && (((rd_T41 t385 1).f0.f1) == 0 && ((!((rd_T41 t385 1).f0.f2.f0) && ((((rd_T41 t385 1).f0.f2.f1).toList) == ([47, 97] : List UInt8) && (((rd_T41 t385 1).f0.f2.f2) == 0 && (((rd_T41 t385 1).f0.f2.f3) == 0)))) && (((rd_T41 t385 1).f0.f3) == 1 && (((rd_T41 t385 1).f0.f4) == 0 && (!((rd_T41 t385 1).f0.f5) && (!((rd_T41 t385 1).f0.f6) && (!((rd_T41 t385 1).f0.f7) && (!((rd_T41 t385 1).f0.f8) && (((rd_T41 t385 1).f0.f9) == 0 && (((rd_T41 t385 1).f0.f10) == 0 && (!((rd_T41 t385 1).f0.f11))))))))))))) = true := c39
    (try (have c39b1 : decide (((rd_T41 t385 1).f0.f0) = 0 && (((rd_T41 t385 1).f0.f1) == 0 && ((!((rd_T41 t385 1).f0.f2.f0) && ((((rd_T41 t385 1).f0.f2.f1).toList) == ([47, 97] : List UInt8) && (((rd_T41 t385 1).f0.f2.f2) == 0 && (((rd_T41 t385 1).f0.f2.f3) == 0)))) && (((rd_T41 t385 1).f0.f3) == 1 && (((rd_T41 t385 1).f0.f4) == 0 && (!((rd_T41 t385 1).f0.f5) && (!((rd_T41 t385 1).f0.f6) && (!((rd_T41 t385 1).f0.f7) && (!((rd_T41 t385 1).f0.f8) && (((rd_T41 t385 1).f0.f9) == 0 && (((rd_T41 t385 1).f0.f10) == 0 && (!((rd_T41 t385 1).f0.f11))))))))))))) = true := by simpa using c39))
    (try (have c39b2 : (((rd_T41 t385 1).f0.f0) == 0 && (((rd_T41 t385 1).f0.f1) == 0 && ((!((rd_T41 t385 1).f0.f2.f0) && ((((rd_T41 t385 1).f0.f2.f1).toList) == ([47, 97] : List UInt8) && (((rd_T41 t385 1).f0.f2.f2) == 0 && (((rd_T41 t385 1).f0.f2.f3) == 0)))) && (((rd_T41 t385 1).f0.f3) == 1 && (((rd_T41 t385 1).f0.f4) == 0 && (!((rd_T41 t385 1).f0.f5) && (!((rd_T41 t385 1).f0.f6) && (!((rd_T41 t385 1).f0.f7) && (!((rd_T41 t385 1).f0.f8) && (((rd_T41 t385 1).f0.f9) == 0 && (((rd_T41 t385 1).f0.f10) == 0 && (!((rd_T41 t385 1).f0.f11))))))))))))) = true := by simpa using c39))
    clear c39
    obtain ⟨bq40, hbq40⟩ : ∃ b_ : Bool, b_ = ((rd_T41 t385 2).f0.f11) := ⟨_, rfl⟩
    replace H : (if bq40 = true then (some (((rd_T41 t385 2).f0.f0) == 0)) else (some false)) = some r := by rw [← hbq40] at H; exact H
    have Nbq40 := Aside0.mk hbq40
    clear hbq40
    by_cases c41 : bq40 = true
    case neg =>
     replace c41 := Bool.eq_false_iff.mpr c41
     subst c41
     have H1 : (some false) = some r := by rw [if_neg (show ¬ (false = true) by decide)] at H; exact H
     clear H
     have H := H1
     clear H1
     exact absurd (Option.some.inj H) (by rw [HRT.out]; decide)
    subst c41
    have H1 : (some (((rd_T41 t385 2).f0.f0) == 0)) = some r := by rw [if_pos rfl] at H; exact H
    clear H
    have H := H1
    clear H1
    obtain rfl := Option.some.inj H
    try go_wp2_with (first | ((with_reducible refine gate_dst (N := 41) rfl ?_); (try (refine gate_guard (by rfl) ?_; dsimp only)); refine Kd.R_lit (Kd.int .u8) _ 5 ?hg (N := 41) ?hd (xs := ([3] : List Int)) (inner := [.int .u8 3]) (ok := fun _ => True) (okp := fun _ => True) ?hr ?hp (fun _ hk => hk) trivial (Below.refl _ _) (Nat.le_refl _) (by simp) ?_; (case hd => rfl); (case hg => rfl); (case hr => first | (go_simp; done) | (go_simp; rfl)); (case hp => exact (Reps.one (show Kd.M (Kd.int .u8) _ _ _ 3 [.int .u8 3] from rfl) (Reps.none _ _))); intro v342 w42 ho43 hb hg_ hnew_; clear hg_ hnew_; (first | rw [← Ny341.out] at ho43 | (simp only [Int.reduceToNat] at ho43; rw [← Ny341.out] at ho43)); have n0_ := Aside0.mk (Kd.R_lower ho43 (below_size qB)); have n1_ := Aside0.mk (below_step qB hb); clear HB; have HO343 := n0_; have HB := n1_; clear n0_ n1_; clear hb ho43) | ((with_reducible refine gate_callee (f := 12) rfl ?_); refine goesL_ (some 43) rfl rfl Tryd.func12 (by kernel_rfl) rfl #[.int .i64 a0, .int .i64 0] rfl qL ?_; (with_reducible refine (spec_Signed.calls kj4 a0 0 t344 _ A13.out).mono ?_); rintro e w44 ⟨v345, rfl, ho0, hb⟩; refine ⟨_, rfl, ?_⟩; have n0_ := Aside0.mk (Kd.R_elder' (qR HO343.out) (Kd.R_base ho0) hb); have n1_ := Aside0.mk (Kd.R_lower (Kd.R_new' ho0 (Kd.R_lt (qR HO343.out))) (below_size qB)); have n2_ := Aside0.mk (below_step qB hb); clear HO343; clear HB; have HO343 := n0_; have HO346 := n1_; have HB := n2_; clear n0_ n1_ n2_; (try clear hb); (try clear hb2); (try clear hk); (try clear hi); (try clear ho0); obtain ⟨Ao46, co46, eo46⟩ := Kd.R_slice HO346.out; subst eo46) | ((with_reducible refine gate_builtin (b := .append) (xs := #[.tmp 41, .tmp 43]) rfl ?_); (try (refine gate_guard (by rfl) ?_; dsimp only)); at_builtin; refine Kd.R_append_rows (Kd.int .u8) (w0 := w) w.heap.size rfl (.tmp 41) (.tmp 43) 23 5 (.int .u8 0) 1 rfl Tryd.underlying23 info5 rfl (by decide) (by omega) v342 y341 t344 _ _ _ (fun k_ => some k_ ≠ (.slice Ao46 t344.length co46 : Value).ownBlock) (fun _ => False) rfl rfl ?aO ?aR (fun _ _ h => h) (fun _ h => h.elim) ?aF ?aB ?aS ?aL ?_; (case aR => exact qC (Kd.R_reads' HO346.out).2.2); (case aB => exact qB); (case aF => exact (fun k_ hk => Kd.fresh' (Kd.R_lt (qR HO346.out)) k_ hk)); (case aO => exact (by (with_reducible repeat (first | apply Kd.R_alloc | apply Kd.R_drewN | apply Kd.R_drew)); exact Kd.R_mono HO343.out (fun _ hk => hk.2))); (case aS => exact (below_size qB)); (case aL => have := LMc14.out; omega); intro v348 w45 ho hb hg hat; rw [← Ny347.out] at ho; have n0_ := Aside0.mk (Kd.R_after (ok := (fun _ => True)) (qR HO346.out) hg hat); have n1_ := Aside0.mk (hb); have n2_ := Aside0.mk (ho); clear HO346; clear HB; clear HO343; have HO346 := n0_; have HB := n1_; have HO349 := n2_; clear n0_ n1_ n2_; clear ho hb hg hat) | ((with_reducible refine gate_builtin (b := .append) (xs := #[.tmp 45, .tmp 46]) rfl ?_); (try (refine gate_guard (by rfl) ?_; dsimp only)); at_builtin; refine Kd.R_append (Kd.int .u8) (w0 := w) w.heap.size rfl (.tmp 45) (.tmp 46) 23 5 (.int .u8 0) 1 rfl Tryd.underlying23 info5 rfl (by decide) (by omega) v348 y347 5 [.int .u8 5] (fun k_ => some k_ ≠ (.slice Ao46 t344.length co46 : Value).ownBlock) (fun _ => False) rfl rfl ?aP (fun _ hk => hk.elim) ?aF ?aO ?aB ?aS ?aL ?_; (case aP => exact rfl); (case aB => exact qB); (case aF => exact (fun k_ hk => Kd.fresh' (Kd.R_lt (qR HO346.out)) k_ hk)); (case aO => exact (qR HO349.out)); (case aS => exact (below_size qB)); (case aL => have := LMc15.out; omega); intro v351 w47 ho hb hg hat; rw [← Ny350.out] at ho; have n0_ := Aside0.mk (Kd.R_after (ok := (fun _ => True)) (qR HO346.out) hg hat); have n1_ := Aside0.mk (hb); have n2_ := Aside0.mk (ho); clear HO346; clear HB; clear HO349; have HO346 := n0_; have HB := n1_; have HO352 := n2_; clear n0_ n1_ n2_; clear ho hb hg hat) | ((with_reducible refine gate_callee (f := 13) rfl ?_); refine goesL_ (some 50) rfl rfl Tryd.func13 (by kernel_rfl) rfl #[.int .u64 (IntKind.u64.wrap (a1)), .int .i64 0] rfl qL ?_; (with_reducible refine (spec_Unsigned.calls kj4 (IntKind.u64.wrap (a1)) 0 t353 _ A16.out).mono ?_); rintro e w48 ⟨v354, rfl, ho0, hb⟩; refine ⟨_, rfl, ?_⟩; have n0_ := Aside0.mk (Kd.R_elder' (qR HO346.out) (Kd.R_base ho0) hb); have n1_ := Aside0.mk (Kd.R_elder' (qR HO352.out) (Kd.R_base ho0) hb); have n2_ := Aside0.mk (Kd.R_lower (Kd.R_new' (Kd.R_new' ho0 (Kd.R_lt (qR HO346.out))) (Kd.R_lt (qR HO352.out))) (below_size qB)); have n3_ := Aside0.mk (below_step qB hb); clear HO346; clear HO352; clear HB; have HO346 := n0_; have HO352 := n1_; have HO355 := n2_; have HB := n3_; clear n0_ n1_ n2_ n3_; (try clear hb); (try clear hb2); (try clear hk); (try clear hi); (try clear ho0); obtain ⟨Ao50, co50, eo50⟩ := Kd.R_slice HO355.out; subst eo50) | ((with_reducible refine gate_builtin (b := .append) (xs := #[.tmp 47, .tmp 50]) rfl ?_); (try (refine gate_guard (by rfl) ?_; dsimp only)); at_builtin; refine Kd.R_append_rows (Kd.int .u8) (w0 := w) w.heap.size rfl (.tmp 47) (.tmp 50) 23 5 (.int .u8 0) 1 rfl Tryd.underlying23 info5 rfl (by decide) (by omega) v351 y350 t353 _ _ _ (fun k_ => some k_ ≠ (.slice Ao46 t344.length co46 : Value).ownBlock ∧ some k_ ≠ (.slice Ao50 t353.length co50 : Value).ownBlock) (fun _ => False) rfl rfl ?aO ?aR (fun _ _ h => h) (fun _ h => h.elim) ?aF ?aB ?aS ?aL ?_; (case aR => exact qC (Kd.R_reads' HO355.out).2.2); (case aB => exact qB); (case aF => exact (fun k_ hk => ⟨Kd.fresh' (Kd.R_lt (qR HO346.out)) k_ hk, Kd.fresh' (Kd.R_lt (qR HO355.out)) k_ hk⟩)); (case aO => exact (qR HO352.out)); (case aS => exact (below_size qB)); (case aL => have := LMc17.out; omega); intro v357 w49 ho hb hg hat; rw [← Ny356.out] at ho; have n0_ := Aside0.mk (Kd.R_after (ok := (fun k_ => some k_ ≠ (.slice Ao50 t353.length co50 : Value).ownBlock)) (by (with_reducible repeat (first | apply Kd.R_alloc | apply Kd.R_drewN | apply Kd.R_drew)); exact Kd.R_mono HO346.out (fun _ hk => ⟨hk.2, hk.1.2⟩)) hg hat); have n1_ := Aside0.mk (Kd.R_after (ok := (fun k_ => some k_ ≠ (.slice Ao46 t344.length co46 : Value).ownBlock)) (by (with_reducible repeat (first | apply Kd.R_alloc | apply Kd.R_drewN | apply Kd.R_drew)); exact Kd.R_mono HO355.out (fun _ hk => ⟨hk.1.2, hk.2⟩)) hg hat); have n2_ := Aside0.mk (hb); have n3_ := Aside0.mk (ho); clear HO346; clear HO355; clear HB; clear HO352; have HO346 := n0_; have HO355 := n1_; have HB := n2_; have HO358 := n3_; clear n0_ n1_ n2_ n3_; clear ho hb hg hat) | ((with_reducible refine gate_builtin (b := .append) (xs := #[.tmp 52, .tmp 53]) rfl ?_); (try (refine gate_guard (by rfl) ?_; dsimp only)); at_builtin; refine Kd.R_append (Kd.int .u8) (w0 := w) w.heap.size rfl (.tmp 52) (.tmp 53) 23 5 (.int .u8 0) 1 rfl Tryd.underlying23 info5 rfl (by decide) (by omega) v357 y356 12 [.int .u8 12] (fun k_ => some k_ ≠ (.slice Ao46 t344.length co46 : Value).ownBlock ∧ some k_ ≠ (.slice Ao50 t353.length co50 : Value).ownBlock) (fun _ => False) rfl rfl ?aP (fun _ hk => hk.elim) ?aF ?aO ?aB ?aS ?aL ?_; (case aP => exact rfl); (case aB => exact qB); (case aF => exact (fun k_ hk => ⟨Kd.fresh' (Kd.R_lt (qR HO346.out)) k_ hk, Kd.fresh' (Kd.R_lt (qR HO355.out)) k_ hk⟩)); (case aO => exact (qR HO358.out)); (case aS => exact (below_size qB)); (case aL => have := LMc18.out; omega); intro v360 w51 ho hb hg hat; rw [← Ny359.out] at ho; have n0_ := Aside0.mk (Kd.R_after (ok := (fun k_ => some k_ ≠ (.slice Ao50 t353.length co50 : Value).ownBlock)) (qR HO346.out) hg hat); have n1_ := Aside0.mk (Kd.R_after (ok := (fun k_ => some k_ ≠ (.slice Ao46 t344.length co46 : Value).ownBlock)) (qR HO355.out) hg hat); have n2_ := Aside0.mk (hb); have n3_ := Aside0.mk (ho); clear HO346; clear HO355; clear HB; clear HO358; have HO346 := n0_; have HO355 := n1_; have HB := n2_; have HO361 := n3_; clear n0_ n1_ n2_ n3_; clear ho hb hg hat) | ((with_reducible refine gate_callee (f := 13) rfl ?_); refine goesL_ (some 57) rfl rfl Tryd.func13 (by kernel_rfl) rfl #[.int .u64 (IntKind.u64.wrap (a2)), .int .i64 0] rfl qL ?_; (with_reducible refine (spec_Unsigned.calls kj4 (IntKind.u64.wrap (a2)) 0 t362 _ A19.out).mono ?_); rintro e w52 ⟨v363, rfl, ho0, hb⟩; refine ⟨_, rfl, ?_⟩; have n0_ := Aside0.mk (Kd.R_elder' (qR HO346.out) (Kd.R_base ho0) hb); have n1_ := Aside0.mk (Kd.R_elder' (qR HO355.out) (Kd.R_base ho0) hb); have n2_ := Aside0.mk (Kd.R_elder' (qR HO361.out) (Kd.R_base ho0) hb); have n3_ := Aside0.mk (Kd.R_lower (Kd.R_new' (Kd.R_new' (Kd.R_new' ho0 (Kd.R_lt (qR HO346.out))) (Kd.R_lt (qR HO355.out))) (Kd.R_lt (qR HO361.out))) (below_size qB)); have n4_ := Aside0.mk (below_step qB hb); clear HO346; clear HO355; clear HO361; clear HB; have HO346 := n0_; have HO355 := n1_; have HO361 := n2_; have HO364 := n3_; have HB := n4_; clear n0_ n1_ n2_ n3_ n4_; (try clear hb); (try clear hb2); (try clear hk); (try clear hi); (try clear ho0); obtain ⟨Ao54, co54, eo54⟩ := Kd.R_slice HO364.out; subst eo54) | ((with_reducible refine gate_builtin (b := .append) (xs := #[.tmp 54, .tmp 57]) rfl ?_); (try (refine gate_guard (by rfl) ?_; dsimp only)); at_builtin; refine Kd.R_append_rows (Kd.int .u8) (w0 := w) w.heap.size rfl (.tmp 54) (.tmp 57) 23 5 (.int .u8 0) 1 rfl Tryd.underlying23 info5 rfl (by decide) (by omega) v360 y359 t362 _ _ _ (fun k_ => some k_ ≠ (.slice Ao46 t344.length co46 : Value).ownBlock ∧ some k_ ≠ (.slice Ao50 t353.length co50 : Value).ownBlock ∧ some k_ ≠ (.slice Ao54 t362.length co54 : Value).ownBlock) (fun _ => False) rfl rfl ?aO ?aR (fun _ _ h => h) (fun _ h => h.elim) ?aF ?aB ?aS ?aL ?_; (case aR => exact qC (Kd.R_reads' HO364.out).2.2); (case aB => exact qB); (case aF => exact (fun k_ hk => ⟨Kd.fresh' (Kd.R_lt (qR HO346.out)) k_ hk, Kd.fresh' (Kd.R_lt (qR HO355.out)) k_ hk, Kd.fresh' (Kd.R_lt (qR HO364.out)) k_ hk⟩)); (case aO => exact (by (with_reducible repeat (first | apply Kd.R_alloc | apply Kd.R_drewN | apply Kd.R_drew)); exact Kd.R_mono HO361.out (fun _ hk => ⟨hk.1.1, ⟨hk.1.2, hk.2⟩⟩))); (case aS => exact (below_size qB)); (case aL => have := LMc20.out; omega); intro v366 w53 ho hb hg hat; rw [← Ny365.out] at ho; have n0_ := Aside0.mk (Kd.R_after (ok := (fun k_ => some k_ ≠ (.slice Ao50 t353.length co50 : Value).ownBlock ∧ some k_ ≠ (.slice Ao54 t362.length co54 : Value).ownBlock)) (by (with_reducible repeat (first | apply Kd.R_alloc | apply Kd.R_drewN | apply Kd.R_drew)); exact Kd.R_mono HO346.out (fun _ hk => ⟨⟨hk.1.1, hk.2⟩, hk.1.2⟩)) hg hat); have n1_ := Aside0.mk (Kd.R_after (ok := (fun k_ => some k_ ≠ (.slice Ao46 t344.length co46 : Value).ownBlock ∧ some k_ ≠ (.slice Ao54 t362.length co54 : Value).ownBlock)) (by (with_reducible repeat (first | apply Kd.R_alloc | apply Kd.R_drewN | apply Kd.R_drew)); exact Kd.R_mono HO355.out (fun _ hk => ⟨⟨hk.1.1, hk.2⟩, hk.1.2⟩)) hg hat); have n2_ := Aside0.mk (Kd.R_after (ok := (fun k_ => some k_ ≠ (.slice Ao46 t344.length co46 : Value).ownBlock ∧ some k_ ≠ (.slice Ao50 t353.length co50 : Value).ownBlock)) (by (with_reducible repeat (first | apply Kd.R_alloc | apply Kd.R_drewN | apply Kd.R_drew)); exact Kd.R_mono HO364.out (fun _ hk => ⟨⟨hk.1.1.2, hk.1.2⟩, hk.2⟩)) hg hat); have n3_ := Aside0.mk (hb); have n4_ := Aside0.mk (ho); clear HO346; clear HO355; clear HO364; clear HB; clear HO361; have HO346 := n0_; have HO355 := n1_; have HO364 := n2_; have HB := n3_; have HO367 := n4_; clear n0_ n1_ n2_ n3_ n4_; clear ho hb hg hat) | ((with_reducible refine gate_dst (N := 60) rfl ?_); (try (refine gate_guard (by rfl) ?_; dsimp only)); refine Kd.R_lit (Kd.int .u8) _ 5 ?hg (N := 60) ?hd (xs := ([6, 7, 10, 11, 0, 1, 1, 1] : List Int)) (inner := [.int .u8 6, .int .u8 7, .int .u8 10, .int .u8 11, .int .u8 0, .int .u8 1, .int .u8 1, .int .u8 1]) (ok := fun _ => True) (okp := fun _ => True) ?hr ?hp (fun _ hk => hk) trivial (Below.refl _ _) (Nat.le_refl _) (by simp) ?_; (case hd => rfl); (case hg => rfl); (case hr => first | (go_simp; done) | (go_simp; rfl)); (case hp => exact (Reps.one (show Kd.M (Kd.int .u8) _ _ _ 6 [.int .u8 6] from rfl) (Reps.one (show Kd.M (Kd.int .u8) _ _ _ 7 [.int .u8 7] from rfl) (Reps.one (show Kd.M (Kd.int .u8) _ _ _ 10 [.int .u8 10] from rfl) (Reps.one (show Kd.M (Kd.int .u8) _ _ _ 11 [.int .u8 11] from rfl) (Reps.one (show Kd.M (Kd.int .u8) _ _ _ 0 [.int .u8 0] from rfl) (Reps.one (show Kd.M (Kd.int .u8) _ _ _ 1 [.int .u8 1] from rfl) (Reps.one (show Kd.M (Kd.int .u8) _ _ _ 1 [.int .u8 1] from rfl) (Reps.one (show Kd.M (Kd.int .u8) _ _ _ 1 [.int .u8 1] from rfl) (Reps.none _ _)))))))))); intro v369 w55 ho56 hb hg_ hnew_; clear hg_ hnew_; (first | rw [← Ny368.out] at ho56 | (simp only [Int.reduceToNat] at ho56; rw [← Ny368.out] at ho56)); have n0_ := Aside0.mk (Kd.R_elder' (qR HO346.out) (Kd.R_base ho56) hb); have n1_ := Aside0.mk (Kd.R_elder' (qR HO355.out) (Kd.R_base ho56) hb); have n2_ := Aside0.mk (Kd.R_elder' (qR HO364.out) (Kd.R_base ho56) hb); have n3_ := Aside0.mk (Kd.R_elder' (qR HO367.out) (Kd.R_base ho56) hb); have n4_ := Aside0.mk (Kd.R_lower (Kd.R_new' (Kd.R_new' (Kd.R_new' (Kd.R_new' ho56 (Kd.R_lt (qR HO346.out))) (Kd.R_lt (qR HO355.out))) (Kd.R_lt (qR HO364.out))) (Kd.R_lt (qR HO367.out))) (below_size qB)); have n5_ := Aside0.mk (below_step qB hb); clear HO346; clear HO355; clear HO364; clear HO367; clear HB; have HO346 := n0_; have HO355 := n1_; have HO364 := n2_; have HO367 := n3_; have HO370 := n4_; have HB := n5_; clear n0_ n1_ n2_ n3_ n4_ n5_; clear hb ho56; obtain ⟨Ao58, co58, eo58⟩ := Kd.R_slice HO370.out; subst eo58) | ((with_reducible refine gate_builtin (b := .append) (xs := #[.tmp 59, .tmp 60]) rfl ?_); (try (refine gate_guard (by rfl) ?_; dsimp only)); at_builtin; refine Kd.R_append_rows (Kd.int .u8) (w0 := w) w.heap.size rfl (.tmp 59) (.tmp 60) 23 5 (.int .u8 0) 1 rfl Tryd.underlying23 info5 rfl (by decide) (by omega) v366 y365 y368 _ _ _ (fun k_ => some k_ ≠ (.slice Ao46 t344.length co46 : Value).ownBlock ∧ some k_ ≠ (.slice Ao50 t353.length co50 : Value).ownBlock ∧ some k_ ≠ (.slice Ao54 t362.length co54 : Value).ownBlock ∧ some k_ ≠ (.slice Ao58 y368.length co58 : Value).ownBlock) (fun _ => False) rfl rfl ?aO ?aR (fun _ _ h => h) (fun _ h => h.elim) ?aF ?aB ?aS ?aL ?_; (case aR => exact qC (Kd.R_reads' HO370.out).2.2); (case aB => exact qB); (case aF => exact (fun k_ hk => ⟨Kd.fresh' (Kd.R_lt (qR HO346.out)) k_ hk, Kd.fresh' (Kd.R_lt (qR HO355.out)) k_ hk, Kd.fresh' (Kd.R_lt (qR HO364.out)) k_ hk, Kd.fresh' (Kd.R_lt (qR HO370.out)) k_ hk⟩)); (case aO => exact (by (with_reducible repeat (first | apply Kd.R_alloc | apply Kd.R_drewN | apply Kd.R_drew)); exact Kd.R_mono HO367.out (fun _ hk => ⟨hk.1.1, ⟨hk.1.2.1, ⟨hk.1.2.2, hk.2⟩⟩⟩))); (case aS => exact (below_size qB)); (case aL => have := LMc21.out; omega); intro v372 w57 ho hb hg hat; rw [← Ny371.out] at ho; have n0_ := Aside0.mk (Kd.R_after (ok := (fun k_ => some k_ ≠ (.slice Ao50 t353.length co50 : Value).ownBlock ∧ some k_ ≠ (.slice Ao54 t362.length co54 : Value).ownBlock ∧ some k_ ≠ (.slice Ao58 y368.length co58 : Value).ownBlock)) (by (with_reducible repeat (first | apply Kd.R_alloc | apply Kd.R_drewN | apply Kd.R_drew)); exact Kd.R_mono HO346.out (fun _ hk => ⟨⟨hk.1.1.1, ⟨hk.1.1.2, hk.2⟩⟩, hk.1.2⟩)) hg hat); have n1_ := Aside0.mk (Kd.R_after (ok := (fun k_ => some k_ ≠ (.slice Ao46 t344.length co46 : Value).ownBlock ∧ some k_ ≠ (.slice Ao54 t362.length co54 : Value).ownBlock ∧ some k_ ≠ (.slice Ao58 y368.length co58 : Value).ownBlock)) (by (with_reducible repeat (first | apply Kd.R_alloc | apply Kd.R_drewN | apply Kd.R_drew)); exact Kd.R_mono HO355.out (fun _ hk => ⟨⟨hk.1.1.1, ⟨hk.1.1.2, hk.2⟩⟩, hk.1.2⟩)) hg hat); have n2_ := Aside0.mk (Kd.R_after (ok := (fun k_ => some k_ ≠ (.slice Ao46 t344.length co46 : Value).ownBlock ∧ some k_ ≠ (.slice Ao50 t353.length co50 : Value).ownBlock ∧ some k_ ≠ (.slice Ao58 y368.length co58 : Value).ownBlock)) (by (with_reducible repeat (first | apply Kd.R_alloc | apply Kd.R_drewN | apply Kd.R_drew)); exact Kd.R_mono HO364.out (fun _ hk => ⟨⟨hk.1.1.1, ⟨hk.1.1.2, hk.2⟩⟩, hk.1.2⟩)) hg hat); have n3_ := Aside0.mk (Kd.R_after (ok := (fun k_ => some k_ ≠ (.slice Ao46 t344.length co46 : Value).ownBlock ∧ some k_ ≠ (.slice Ao50 t353.length co50 : Value).ownBlock ∧ some k_ ≠ (.slice Ao54 t362.length co54 : Value).ownBlock)) (by (with_reducible repeat (first | apply Kd.R_alloc | apply Kd.R_drewN | apply Kd.R_drew)); exact Kd.R_mono HO370.out (fun _ hk => ⟨⟨hk.1.1.1.2, ⟨hk.1.1.2, hk.1.2⟩⟩, hk.2⟩)) hg hat); have n4_ := Aside0.mk (hb); have n5_ := Aside0.mk (ho); clear HO346; clear HO355; clear HO364; clear HO370; clear HB; clear HO367; have HO346 := n0_; have HO355 := n1_; have HO364 := n2_; have HO370 := n3_; have HB := n4_; have HO373 := n5_; clear n0_ n1_ n2_ n3_ n4_ n5_; clear ho hb hg hat) | ((with_reducible refine gate_callee (f := 16) rfl ?_); refine goesL_ (some 63) rfl rfl Tryd.func16 (by kernel_rfl) rfl #[] rfl qL ?_; (with_reducible refine (laws_usual.calls  t374 t375 t376 t377 t378 _ A22.out).mono ?_); rintro e w59 ⟨rfl, hb⟩; refine ⟨_, rfl, ?_⟩; have n0_ := Aside0.mk (Kd.R_below (qR HO346.out) hb); have n1_ := Aside0.mk (Kd.R_below (qR HO355.out) hb); have n2_ := Aside0.mk (Kd.R_below (qR HO364.out) hb); have n3_ := Aside0.mk (Kd.R_below (qR HO370.out) hb); have n4_ := Aside0.mk (Kd.R_below (qR HO373.out) hb); have n5_ := Aside0.mk (below_step qB hb); clear HO346; clear HO355; clear HO364; clear HO370; clear HO373; clear HB; have HO346 := n0_; have HO355 := n1_; have HO364 := n2_; have HO370 := n3_; have HO373 := n4_; have HB := n5_; clear n0_ n1_ n2_ n3_ n4_ n5_; (try clear hb); (try clear hb2); (try clear hk); (try clear hi); obtain ⟨Ao60, co60, eo60⟩ := Kd.R_slice HO373.out; subst eo60) | ((with_reducible refine gate_callee (f := 15) rfl ?_); refine goesL_ (some 66) rfl rfl Tryd.func15 (by kernel_rfl) rfl #[.agg #[.int .i64 t374, .int .i64 t375, .int .i64 t376, .int .i64 t377, .int .i64 t378], .int .u64 a3, .slice Ao60 y371.length co60] rfl qL ?_; (with_reducible refine (laws_plain.calls kj4 t374 t375 t376 t377 t378 a3 _ _ y371 t379 _ ?side1 ?side2 A23.out).mono ?_); (case side1 => exact qC (Kd.R_reads' HO373.out).2.2); (case side2 => exact (Kd.R_reads' HO373.out).2.1); rintro e w61 ⟨v380, rfl, ho0, hb⟩; refine ⟨_, rfl, ?_⟩; have n0_ := Aside0.mk (Kd.R_elder' (qR HO346.out) (Kd.R_base ho0) hb); have n1_ := Aside0.mk (Kd.R_elder' (qR HO355.out) (Kd.R_base ho0) hb); have n2_ := Aside0.mk (Kd.R_elder' (qR HO364.out) (Kd.R_base ho0) hb); have n3_ := Aside0.mk (Kd.R_elder' (qR HO370.out) (Kd.R_base ho0) hb); have n4_ := Aside0.mk (Kd.R_elder' (qR HO373.out) (Kd.R_base ho0) hb); have n5_ := Aside0.mk (Kd.R_lower (Kd.R_new' (Kd.R_new' (Kd.R_new' (Kd.R_new' (Kd.R_new' ho0 (Kd.R_lt (qR HO346.out))) (Kd.R_lt (qR HO355.out))) (Kd.R_lt (qR HO364.out))) (Kd.R_lt (qR HO370.out))) (Kd.R_lt (qR HO373.out))) (below_size qB)); have n6_ := Aside0.mk (below_step qB hb); clear HO346; clear HO355; clear HO364; clear HO370; clear HO373; clear HB; have HO346 := n0_; have HO355 := n1_; have HO364 := n2_; have HO370 := n3_; have HO373 := n4_; have HO381 := n5_; have HB := n6_; clear n0_ n1_ n2_ n3_ n4_ n5_ n6_; (try clear hb); (try clear hb2); (try clear hk); (try clear hi); (try clear ho0)) | ((with_reducible refine gate_callee (f := 17) rfl ?_); refine goesL_ (some 67) rfl rfl Tryd.func17 (by kernel_rfl) rfl #[.int .i64 4] rfl qL ?_; (with_reducible refine (laws_nexts.calls 4 t382 _ A24.out).mono ?_); rintro e w62 ⟨v383, rfl, ho0, hb⟩; refine ⟨_, rfl, ?_⟩; have n0_ := Aside0.mk (Kd.R_below (qR HO346.out) hb); have n1_ := Aside0.mk (Kd.R_below (qR HO355.out) hb); have n2_ := Aside0.mk (Kd.R_below (qR HO364.out) hb); have n3_ := Aside0.mk (Kd.R_below (qR HO370.out) hb); have n4_ := Aside0.mk (Kd.R_below (qR HO373.out) hb); have n5_ := Aside0.mk (Kd.R_below (qR HO381.out) hb); have n6_ := Aside0.mk (Kd.R_lower ho0 (below_size qB)); have n7_ := Aside0.mk (below_step qB hb); clear HO346; clear HO355; clear HO364; clear HO370; clear HO373; clear HO381; clear HB; have HO346 := n0_; have HO355 := n1_; have HO364 := n2_; have HO370 := n3_; have HO373 := n4_; have HO381 := n5_; have HO384 := n6_; have HB := n7_; clear n0_ n1_ n2_ n3_ n4_ n5_ n6_ n7_; (try clear hb); (try clear hb2); (try clear hk); (try clear hi); (try clear ho0); obtain ⟨Ao63, co63, eo63⟩ := Kd.R_slice HO381.out; subst eo63; obtain ⟨Ao64, co64, eo64⟩ := Kd.R_slice HO384.out; subst eo64) | ((with_reducible refine gate_callee (f := 14) rfl ?_); refine goesL_ (some 68) rfl rfl Tryd.func14 (by kernel_rfl) rfl #[.slice Ao63 t379.length co63, .slice none 0 0, .int .i64 0, .int .i64 8, .bool false, .string (⟨#[]⟩ : ByteArray), .slice Ao64 t382.length co64] rfl qL ?_; (refine (impl_LineSteps.calls kj4 _ _ t379 _ _ ([] : List Int) 0 8 false (⟨#[]⟩ : ByteArray) _ _ t382 t385 t386 _ ?side1 ?side2 ?side3 ?side4 ?side5 ?side6 A25.out ?sideG).mono ?_); (case sideG => exact HGL.out.below qB); (case side1 => exact qC (Kd.R_reads' HO381.out).2.2); (case side2 => exact (Kd.R_reads' HO381.out).2.1); (case side3 => exact Kd.C_nil _ _); (case side4 => exact Nat.le_refl _); (case side5 => exact qC (Kd.R_reads' HO384.out).2.2); (case side6 => exact (Kd.R_reads' HO384.out).2.1); rintro e w65 ⟨v387, rfl, ho0, hb⟩; refine ⟨_, rfl, ?_⟩; have n0_ := Aside0.mk (Kd.R_below (qR HO346.out) hb); have n1_ := Aside0.mk (Kd.R_below (qR HO355.out) hb); have n2_ := Aside0.mk (Kd.R_below (qR HO364.out) hb); have n3_ := Aside0.mk (Kd.R_below (qR HO370.out) hb); have n4_ := Aside0.mk (Kd.R_below (qR HO373.out) hb); have n5_ := Aside0.mk (Kd.R_below (qR HO381.out) hb); have n6_ := Aside0.mk (Kd.R_below (qR HO384.out) hb); have n7_ := Aside0.mk (Kd.S_lower ho0 (below_size qB)); have n8_ := Aside0.mk (below_step qB hb); clear HO346; clear HO355; clear HO364; clear HO370; clear HO373; clear HO381; clear HO384; clear HB; have HO346 := n0_; have HO355 := n1_; have HO364 := n2_; have HO370 := n3_; have HO373 := n4_; have HO381 := n5_; have HO384 := n6_; have HO388 := n7_; have HB := n8_; clear n0_ n1_ n2_ n3_ n4_ n5_ n6_ n7_ n8_; (try clear hb); (try clear hb2); (try clear hk); (try clear hi); (try clear ho0); obtain ⟨Ao66, co66, eo66⟩ := Kd.S_slice HO388.out; subst eo66; have p389 : 0 ≤ (0 : Int) := (by omega); have q389 : 0 < (t385.length : Int) := of_decide_eq_true qA; obtain ⟨ad389, A389_15, c389_15, e389, hx389_0, hx389_1, hx389_2, hx389_3, hx389_4, hx389_5, hx389_6, hx389_7, hx389_8, hx389_9, hx389_10, hx389_11, hx389_12, hx389_13, hx389_14, hx389_15, hx389_16, hl389_15, hi389_15⟩ := at_T41 (Kd.S_reads' HO388.out).2.2 0 p389 q389; (try rw [← Nbq36.out] at hx389_2); (try rw [← Nbq40.out] at hx389_2); (try rw [← Nbq36.out] at hx389_8); (try rw [← Nbq40.out] at hx389_8); (try rw [← Nbq36.out] at hx389_9); (try rw [← Nbq40.out] at hx389_9); (try rw [← Nbq36.out] at hx389_10); (try rw [← Nbq40.out] at hx389_10); (try rw [← Nbq36.out] at hx389_11); (try rw [← Nbq40.out] at hx389_11); (try rw [← Nbq36.out] at hx389_14); (try rw [← Nbq40.out] at hx389_14); cases e389; obtain ⟨ce389, hce389, hMe389, hcc389⟩ := Kd.S_get HO388.out z41 0 p389 (by first | exact q389 | exact of_decide_eq_true qA | (have e_ := (Kd.S_reads' HO388.out).1; omega)); obtain ⟨ve389_15, rfl, ge389_15⟩ := k41_openM hMe389; have hv389_15 := hcc389 15 _ rfl; rw [add_field _ _ 15 (by omega)] at hv389_15; replace hv389_15 := Option.some.inj (hv389_15.symm.trans hx389_15); rw [hv389_15] at ge389_15; have HL389_15 := Aside0.mk (show Kd.R k36 36 _ _ _ _ ((rd_T41 t385 0).f1) from ge389_15); clear hv389_15 ge389_15; clear hcc389 hce389; have qi389 : (0 < t385.length) = True := eq_true (by omega); (try rw [show ((0 : Int)).toNat = 0 from rfl] at hx389_0); (try rw [show 0 * 17 = 0 from rfl] at hx389_0); (try rw [Addr.add_zero'] at hx389_0); (try rw [show ((0 : Int)).toNat = 0 from rfl] at hx389_1); (try rw [show 0 * 17 = 0 from rfl] at hx389_1); (try rw [Addr.add_zero'] at hx389_1); (try rw [show ((0 : Int)).toNat = 0 from rfl] at hx389_2); (try rw [show 0 * 17 = 0 from rfl] at hx389_2); (try rw [Addr.add_zero'] at hx389_2); (try rw [show ((0 : Int)).toNat = 0 from rfl] at hx389_3); (try rw [show 0 * 17 = 0 from rfl] at hx389_3); (try rw [Addr.add_zero'] at hx389_3); (try rw [show ((0 : Int)).toNat = 0 from rfl] at hx389_4); (try rw [show 0 * 17 = 0 from rfl] at hx389_4); (try rw [Addr.add_zero'] at hx389_4); (try rw [show ((0 : Int)).toNat = 0 from rfl] at hx389_5); (try rw [show 0 * 17 = 0 from rfl] at hx389_5); (try rw [Addr.add_zero'] at hx389_5); (try rw [show ((0 : Int)).toNat = 0 from rfl] at hx389_6); (try rw [show 0 * 17 = 0 from rfl] at hx389_6); (try rw [Addr.add_zero'] at hx389_6); (try rw [show ((0 : Int)).toNat = 0 from rfl] at hx389_7); (try rw [show 0 * 17 = 0 from rfl] at hx389_7); (try rw [Addr.add_zero'] at hx389_7); (try rw [show ((0 : Int)).toNat = 0 from rfl] at hx389_8); (try rw [show 0 * 17 = 0 from rfl] at hx389_8); (try rw [Addr.add_zero'] at hx389_8); (try rw [show ((0 : Int)).toNat = 0 from rfl] at hx389_9); (try rw [show 0 * 17 = 0 from rfl] at hx389_9); (try rw [Addr.add_zero'] at hx389_9); (try rw [show ((0 : Int)).toNat = 0 from rfl] at hx389_10); (try rw [show 0 * 17 = 0 from rfl] at hx389_10); (try rw [Addr.add_zero'] at hx389_10); (try rw [show ((0 : Int)).toNat = 0 from rfl] at hx389_11); (try rw [show 0 * 17 = 0 from rfl] at hx389_11); (try rw [Addr.add_zero'] at hx389_11); (try rw [show ((0 : Int)).toNat = 0 from rfl] at hx389_12); (try rw [show 0 * 17 = 0 from rfl] at hx389_12); (try rw [Addr.add_zero'] at hx389_12); (try rw [show ((0 : Int)).toNat = 0 from rfl] at hx389_13); (try rw [show 0 * 17 = 0 from rfl] at hx389_13); (try rw [Addr.add_zero'] at hx389_13); (try rw [show ((0 : Int)).toNat = 0 from rfl] at hx389_14); (try rw [show 0 * 17 = 0 from rfl] at hx389_14); (try rw [Addr.add_zero'] at hx389_14); (try rw [show ((0 : Int)).toNat = 0 from rfl] at hx389_15); (try rw [show 0 * 17 = 0 from rfl] at hx389_15); (try rw [Addr.add_zero'] at hx389_15); (try rw [show ((0 : Int)).toNat = 0 from rfl] at hx389_16); (try rw [show 0 * 17 = 0 from rfl] at hx389_16); (try rw [Addr.add_zero'] at hx389_16); have HR389_15 := Aside0.mk hi389_15; have HC389_15 := Aside0.mk hl389_15; clear hi389_15 hl389_15; replace p389 := eq_true p389; replace q389 := eq_true q389; have p390 : 0 ≤ (1 : Int) := (by omega); have q390 : 1 < (t385.length : Int) := of_decide_eq_true qA; obtain ⟨ad390, A390_15, c390_15, e390, hx390_0, hx390_1, hx390_2, hx390_3, hx390_4, hx390_5, hx390_6, hx390_7, hx390_8, hx390_9, hx390_10, hx390_11, hx390_12, hx390_13, hx390_14, hx390_15, hx390_16, hl390_15, hi390_15⟩ := at_T41 (Kd.S_reads' HO388.out).2.2 1 p390 q390; (try rw [← Nbq36.out] at hx390_2); (try rw [← Nbq40.out] at hx390_2); (try rw [← Nbq36.out] at hx390_8); (try rw [← Nbq40.out] at hx390_8); (try rw [← Nbq36.out] at hx390_9); (try rw [← Nbq40.out] at hx390_9); (try rw [← Nbq36.out] at hx390_10); (try rw [← Nbq40.out] at hx390_10); (try rw [← Nbq36.out] at hx390_11); (try rw [← Nbq40.out] at hx390_11); (try rw [← Nbq36.out] at hx390_14); (try rw [← Nbq40.out] at hx390_14); obtain rfl : ad389 = ad390 := (by injection e390); obtain ⟨ce390, hce390, hMe390, hcc390⟩ := Kd.S_get HO388.out z41 1 p390 (by first | exact q390 | exact of_decide_eq_true qA | (have e_ := (Kd.S_reads' HO388.out).1; omega)); obtain ⟨ve390_15, rfl, ge390_15⟩ := k41_openM hMe390; have hv390_15 := hcc390 15 _ rfl; rw [add_field _ _ 15 (by omega)] at hv390_15; replace hv390_15 := Option.some.inj (hv390_15.symm.trans hx390_15); rw [hv390_15] at ge390_15; have HL390_15 := Aside0.mk (show Kd.R k36 36 _ _ _ _ ((rd_T41 t385 1).f1) from ge390_15); clear hv390_15 ge390_15; clear hcc390 hce390; (try simp only [show (1 : Int).toNat = 1 from rfl, Nat.reduceMul, Nat.reduceEqDiff, Go.Addr.add, ↓reduceIte] at hx390_0); (try simp only [show (1 : Int).toNat = 1 from rfl, Nat.reduceMul, Nat.reduceEqDiff, Go.Addr.add, ↓reduceIte] at hx390_1); (try simp only [show (1 : Int).toNat = 1 from rfl, Nat.reduceMul, Nat.reduceEqDiff, Go.Addr.add, ↓reduceIte] at hx390_2); (try simp only [show (1 : Int).toNat = 1 from rfl, Nat.reduceMul, Nat.reduceEqDiff, Go.Addr.add, ↓reduceIte] at hx390_3); (try simp only [show (1 : Int).toNat = 1 from rfl, Nat.reduceMul, Nat.reduceEqDiff, Go.Addr.add, ↓reduceIte] at hx390_4); (try simp only [show (1 : Int).toNat = 1 from rfl, Nat.reduceMul, Nat.reduceEqDiff, Go.Addr.add, ↓reduceIte] at hx390_5); (try simp only [show (1 : Int).toNat = 1 from rfl, Nat.reduceMul, Nat.reduceEqDiff, Go.Addr.add, ↓reduceIte] at hx390_6); (try simp only [show (1 : Int).toNat = 1 from rfl, Nat.reduceMul, Nat.reduceEqDiff, Go.Addr.add, ↓reduceIte] at hx390_7); (try simp only [show (1 : Int).toNat = 1 from rfl, Nat.reduceMul, Nat.reduceEqDiff, Go.Addr.add, ↓reduceIte] at hx390_8); (try simp only [show (1 : Int).toNat = 1 from rfl, Nat.reduceMul, Nat.reduceEqDiff, Go.Addr.add, ↓reduceIte] at hx390_9); (try simp only [show (1 : Int).toNat = 1 from rfl, Nat.reduceMul, Nat.reduceEqDiff, Go.Addr.add, ↓reduceIte] at hx390_10); (try simp only [show (1 : Int).toNat = 1 from rfl, Nat.reduceMul, Nat.reduceEqDiff, Go.Addr.add, ↓reduceIte] at hx390_11); (try simp only [show (1 : Int).toNat = 1 from rfl, Nat.reduceMul, Nat.reduceEqDiff, Go.Addr.add, ↓reduceIte] at hx390_12); (try simp only [show (1 : Int).toNat = 1 from rfl, Nat.reduceMul, Nat.reduceEqDiff, Go.Addr.add, ↓reduceIte] at hx390_13); (try simp only [show (1 : Int).toNat = 1 from rfl, Nat.reduceMul, Nat.reduceEqDiff, Go.Addr.add, ↓reduceIte] at hx390_14); (try simp only [show (1 : Int).toNat = 1 from rfl, Nat.reduceMul, Nat.reduceEqDiff, Go.Addr.add, ↓reduceIte] at hx390_15); (try simp only [show (1 : Int).toNat = 1 from rfl, Nat.reduceMul, Nat.reduceEqDiff, Go.Addr.add, ↓reduceIte] at hx390_16); have qi390 : (1 < t385.length) = True := eq_true (by omega); (try rw [show ((1 : Int)).toNat = 1 from rfl] at hx390_0); (try rw [show 1 * 17 = 17 from rfl] at hx390_0); (try rw [show ((1 : Int)).toNat = 1 from rfl] at hx390_1); (try rw [show 1 * 17 = 17 from rfl] at hx390_1); (try rw [show ((1 : Int)).toNat = 1 from rfl] at hx390_2); (try rw [show 1 * 17 = 17 from rfl] at hx390_2); (try rw [show ((1 : Int)).toNat = 1 from rfl] at hx390_3); (try rw [show 1 * 17 = 17 from rfl] at hx390_3); (try rw [show ((1 : Int)).toNat = 1 from rfl] at hx390_4); (try rw [show 1 * 17 = 17 from rfl] at hx390_4); (try rw [show ((1 : Int)).toNat = 1 from rfl] at hx390_5); (try rw [show 1 * 17 = 17 from rfl] at hx390_5); (try rw [show ((1 : Int)).toNat = 1 from rfl] at hx390_6); (try rw [show 1 * 17 = 17 from rfl] at hx390_6); (try rw [show ((1 : Int)).toNat = 1 from rfl] at hx390_7); (try rw [show 1 * 17 = 17 from rfl] at hx390_7); (try rw [show ((1 : Int)).toNat = 1 from rfl] at hx390_8); (try rw [show 1 * 17 = 17 from rfl] at hx390_8); (try rw [show ((1 : Int)).toNat = 1 from rfl] at hx390_9); (try rw [show 1 * 17 = 17 from rfl] at hx390_9); (try rw [show ((1 : Int)).toNat = 1 from rfl] at hx390_10); (try rw [show 1 * 17 = 17 from rfl] at hx390_10); (try rw [show ((1 : Int)).toNat = 1 from rfl] at hx390_11); (try rw [show 1 * 17 = 17 from rfl] at hx390_11); (try rw [show ((1 : Int)).toNat = 1 from rfl] at hx390_12); (try rw [show 1 * 17 = 17 from rfl] at hx390_12); (try rw [show ((1 : Int)).toNat = 1 from rfl] at hx390_13); (try rw [show 1 * 17 = 17 from rfl] at hx390_13); (try rw [show ((1 : Int)).toNat = 1 from rfl] at hx390_14); (try rw [show 1 * 17 = 17 from rfl] at hx390_14); (try rw [show ((1 : Int)).toNat = 1 from rfl] at hx390_15); (try rw [show 1 * 17 = 17 from rfl] at hx390_15); (try rw [show ((1 : Int)).toNat = 1 from rfl] at hx390_16); (try rw [show 1 * 17 = 17 from rfl] at hx390_16); have HR390_15 := Aside0.mk hi390_15; have HC390_15 := Aside0.mk hl390_15; clear hi390_15 hl390_15; replace p390 := eq_true p390; replace q390 := eq_true q390; have p391 : 0 ≤ (2 : Int) := (by omega); have q391 : 2 < (t385.length : Int) := of_decide_eq_true qA; obtain ⟨ad391, A391_15, c391_15, e391, hx391_0, hx391_1, hx391_2, hx391_3, hx391_4, hx391_5, hx391_6, hx391_7, hx391_8, hx391_9, hx391_10, hx391_11, hx391_12, hx391_13, hx391_14, hx391_15, hx391_16, hl391_15, hi391_15⟩ := at_T41 (Kd.S_reads' HO388.out).2.2 2 p391 q391; (try rw [← Nbq36.out] at hx391_2); (try rw [← Nbq40.out] at hx391_2); (try rw [← Nbq36.out] at hx391_8); (try rw [← Nbq40.out] at hx391_8); (try rw [← Nbq36.out] at hx391_9); (try rw [← Nbq40.out] at hx391_9); (try rw [← Nbq36.out] at hx391_10); (try rw [← Nbq40.out] at hx391_10); (try rw [← Nbq36.out] at hx391_11); (try rw [← Nbq40.out] at hx391_11); (try rw [← Nbq36.out] at hx391_14); (try rw [← Nbq40.out] at hx391_14); obtain rfl : ad389 = ad391 := (by injection e391); obtain ⟨ce391, hce391, hMe391, hcc391⟩ := Kd.S_get HO388.out z41 2 p391 (by first | exact q391 | exact of_decide_eq_true qA | (have e_ := (Kd.S_reads' HO388.out).1; omega)); obtain ⟨ve391_15, rfl, ge391_15⟩ := k41_openM hMe391; have hv391_15 := hcc391 15 _ rfl; rw [add_field _ _ 15 (by omega)] at hv391_15; replace hv391_15 := Option.some.inj (hv391_15.symm.trans hx391_15); rw [hv391_15] at ge391_15; have HL391_15 := Aside0.mk (show Kd.R k36 36 _ _ _ _ ((rd_T41 t385 2).f1) from ge391_15); clear hv391_15 ge391_15; clear hcc391 hce391; (try simp only [show (2 : Int).toNat = 2 from rfl, Nat.reduceMul, Nat.reduceEqDiff, Go.Addr.add, ↓reduceIte] at hx391_0); (try simp only [show (2 : Int).toNat = 2 from rfl, Nat.reduceMul, Nat.reduceEqDiff, Go.Addr.add, ↓reduceIte] at hx391_1); (try simp only [show (2 : Int).toNat = 2 from rfl, Nat.reduceMul, Nat.reduceEqDiff, Go.Addr.add, ↓reduceIte] at hx391_2); (try simp only [show (2 : Int).toNat = 2 from rfl, Nat.reduceMul, Nat.reduceEqDiff, Go.Addr.add, ↓reduceIte] at hx391_3); (try simp only [show (2 : Int).toNat = 2 from rfl, Nat.reduceMul, Nat.reduceEqDiff, Go.Addr.add, ↓reduceIte] at hx391_4); (try simp only [show (2 : Int).toNat = 2 from rfl, Nat.reduceMul, Nat.reduceEqDiff, Go.Addr.add, ↓reduceIte] at hx391_5); (try simp only [show (2 : Int).toNat = 2 from rfl, Nat.reduceMul, Nat.reduceEqDiff, Go.Addr.add, ↓reduceIte] at hx391_6); (try simp only [show (2 : Int).toNat = 2 from rfl, Nat.reduceMul, Nat.reduceEqDiff, Go.Addr.add, ↓reduceIte] at hx391_7); (try simp only [show (2 : Int).toNat = 2 from rfl, Nat.reduceMul, Nat.reduceEqDiff, Go.Addr.add, ↓reduceIte] at hx391_8); (try simp only [show (2 : Int).toNat = 2 from rfl, Nat.reduceMul, Nat.reduceEqDiff, Go.Addr.add, ↓reduceIte] at hx391_9); (try simp only [show (2 : Int).toNat = 2 from rfl, Nat.reduceMul, Nat.reduceEqDiff, Go.Addr.add, ↓reduceIte] at hx391_10); (try simp only [show (2 : Int).toNat = 2 from rfl, Nat.reduceMul, Nat.reduceEqDiff, Go.Addr.add, ↓reduceIte] at hx391_11); (try simp only [show (2 : Int).toNat = 2 from rfl, Nat.reduceMul, Nat.reduceEqDiff, Go.Addr.add, ↓reduceIte] at hx391_12); (try simp only [show (2 : Int).toNat = 2 from rfl, Nat.reduceMul, Nat.reduceEqDiff, Go.Addr.add, ↓reduceIte] at hx391_13); (try simp only [show (2 : Int).toNat = 2 from rfl, Nat.reduceMul, Nat.reduceEqDiff, Go.Addr.add, ↓reduceIte] at hx391_14); (try simp only [show (2 : Int).toNat = 2 from rfl, Nat.reduceMul, Nat.reduceEqDiff, Go.Addr.add, ↓reduceIte] at hx391_15); (try simp only [show (2 : Int).toNat = 2 from rfl, Nat.reduceMul, Nat.reduceEqDiff, Go.Addr.add, ↓reduceIte] at hx391_16); have qi391 : (2 < t385.length) = True := eq_true (by omega); (try rw [show ((2 : Int)).toNat = 2 from rfl] at hx391_0); (try rw [show 2 * 17 = 34 from rfl] at hx391_0); (try rw [show ((2 : Int)).toNat = 2 from rfl] at hx391_1); (try rw [show 2 * 17 = 34 from rfl] at hx391_1); (try rw [show ((2 : Int)).toNat = 2 from rfl] at hx391_2); (try rw [show 2 * 17 = 34 from rfl] at hx391_2); (try rw [show ((2 : Int)).toNat = 2 from rfl] at hx391_3); (try rw [show 2 * 17 = 34 from rfl] at hx391_3); (try rw [show ((2 : Int)).toNat = 2 from rfl] at hx391_4); (try rw [show 2 * 17 = 34 from rfl] at hx391_4); (try rw [show ((2 : Int)).toNat = 2 from rfl] at hx391_5); (try rw [show 2 * 17 = 34 from rfl] at hx391_5); (try rw [show ((2 : Int)).toNat = 2 from rfl] at hx391_6); (try rw [show 2 * 17 = 34 from rfl] at hx391_6); (try rw [show ((2 : Int)).toNat = 2 from rfl] at hx391_7); (try rw [show 2 * 17 = 34 from rfl] at hx391_7); (try rw [show ((2 : Int)).toNat = 2 from rfl] at hx391_8); (try rw [show 2 * 17 = 34 from rfl] at hx391_8); (try rw [show ((2 : Int)).toNat = 2 from rfl] at hx391_9); (try rw [show 2 * 17 = 34 from rfl] at hx391_9); (try rw [show ((2 : Int)).toNat = 2 from rfl] at hx391_10); (try rw [show 2 * 17 = 34 from rfl] at hx391_10); (try rw [show ((2 : Int)).toNat = 2 from rfl] at hx391_11); (try rw [show 2 * 17 = 34 from rfl] at hx391_11); (try rw [show ((2 : Int)).toNat = 2 from rfl] at hx391_12); (try rw [show 2 * 17 = 34 from rfl] at hx391_12); (try rw [show ((2 : Int)).toNat = 2 from rfl] at hx391_13); (try rw [show 2 * 17 = 34 from rfl] at hx391_13); (try rw [show ((2 : Int)).toNat = 2 from rfl] at hx391_14); (try rw [show 2 * 17 = 34 from rfl] at hx391_14); (try rw [show ((2 : Int)).toNat = 2 from rfl] at hx391_15); (try rw [show 2 * 17 = 34 from rfl] at hx391_15); (try rw [show ((2 : Int)).toNat = 2 from rfl] at hx391_16); (try rw [show 2 * 17 = 34 from rfl] at hx391_16); have HR391_15 := Aside0.mk hi391_15; have HC391_15 := Aside0.mk hl391_15; clear hi391_15 hl391_15; replace p391 := eq_true p391; replace q391 := eq_true q391; have p392 : 0 ≤ (3 : Int) := (by omega); have q392 : 3 < (t385.length : Int) := of_decide_eq_true qA; obtain ⟨ad392, A392_15, c392_15, e392, hx392_0, hx392_1, hx392_2, hx392_3, hx392_4, hx392_5, hx392_6, hx392_7, hx392_8, hx392_9, hx392_10, hx392_11, hx392_12, hx392_13, hx392_14, hx392_15, hx392_16, hl392_15, hi392_15⟩ := at_T41 (Kd.S_reads' HO388.out).2.2 3 p392 q392; (try rw [← Nbq36.out] at hx392_2); (try rw [← Nbq40.out] at hx392_2); (try rw [← Nbq36.out] at hx392_8); (try rw [← Nbq40.out] at hx392_8); (try rw [← Nbq36.out] at hx392_9); (try rw [← Nbq40.out] at hx392_9); (try rw [← Nbq36.out] at hx392_10); (try rw [← Nbq40.out] at hx392_10); (try rw [← Nbq36.out] at hx392_11); (try rw [← Nbq40.out] at hx392_11); (try rw [← Nbq36.out] at hx392_14); (try rw [← Nbq40.out] at hx392_14); obtain rfl : ad389 = ad392 := (by injection e392); obtain ⟨ce392, hce392, hMe392, hcc392⟩ := Kd.S_get HO388.out z41 3 p392 (by first | exact q392 | exact of_decide_eq_true qA | (have e_ := (Kd.S_reads' HO388.out).1; omega)); obtain ⟨ve392_15, rfl, ge392_15⟩ := k41_openM hMe392; have hv392_15 := hcc392 15 _ rfl; rw [add_field _ _ 15 (by omega)] at hv392_15; replace hv392_15 := Option.some.inj (hv392_15.symm.trans hx392_15); rw [hv392_15] at ge392_15; have HL392_15 := Aside0.mk (show Kd.R k36 36 _ _ _ _ ((rd_T41 t385 3).f1) from ge392_15); clear hv392_15 ge392_15; clear hcc392 hce392; (try simp only [show (3 : Int).toNat = 3 from rfl, Nat.reduceMul, Nat.reduceEqDiff, Go.Addr.add, ↓reduceIte] at hx392_0); (try simp only [show (3 : Int).toNat = 3 from rfl, Nat.reduceMul, Nat.reduceEqDiff, Go.Addr.add, ↓reduceIte] at hx392_1); (try simp only [show (3 : Int).toNat = 3 from rfl, Nat.reduceMul, Nat.reduceEqDiff, Go.Addr.add, ↓reduceIte] at hx392_2); (try simp only [show (3 : Int).toNat = 3 from rfl, Nat.reduceMul, Nat.reduceEqDiff, Go.Addr.add, ↓reduceIte] at hx392_3); (try simp only [show (3 : Int).toNat = 3 from rfl, Nat.reduceMul, Nat.reduceEqDiff, Go.Addr.add, ↓reduceIte] at hx392_4); (try simp only [show (3 : Int).toNat = 3 from rfl, Nat.reduceMul, Nat.reduceEqDiff, Go.Addr.add, ↓reduceIte] at hx392_5); (try simp only [show (3 : Int).toNat = 3 from rfl, Nat.reduceMul, Nat.reduceEqDiff, Go.Addr.add, ↓reduceIte] at hx392_6); (try simp only [show (3 : Int).toNat = 3 from rfl, Nat.reduceMul, Nat.reduceEqDiff, Go.Addr.add, ↓reduceIte] at hx392_7); (try simp only [show (3 : Int).toNat = 3 from rfl, Nat.reduceMul, Nat.reduceEqDiff, Go.Addr.add, ↓reduceIte] at hx392_8); (try simp only [show (3 : Int).toNat = 3 from rfl, Nat.reduceMul, Nat.reduceEqDiff, Go.Addr.add, ↓reduceIte] at hx392_9); (try simp only [show (3 : Int).toNat = 3 from rfl, Nat.reduceMul, Nat.reduceEqDiff, Go.Addr.add, ↓reduceIte] at hx392_10); (try simp only [show (3 : Int).toNat = 3 from rfl, Nat.reduceMul, Nat.reduceEqDiff, Go.Addr.add, ↓reduceIte] at hx392_11); (try simp only [show (3 : Int).toNat = 3 from rfl, Nat.reduceMul, Nat.reduceEqDiff, Go.Addr.add, ↓reduceIte] at hx392_12); (try simp only [show (3 : Int).toNat = 3 from rfl, Nat.reduceMul, Nat.reduceEqDiff, Go.Addr.add, ↓reduceIte] at hx392_13); (try simp only [show (3 : Int).toNat = 3 from rfl, Nat.reduceMul, Nat.reduceEqDiff, Go.Addr.add, ↓reduceIte] at hx392_14); (try simp only [show (3 : Int).toNat = 3 from rfl, Nat.reduceMul, Nat.reduceEqDiff, Go.Addr.add, ↓reduceIte] at hx392_15); (try simp only [show (3 : Int).toNat = 3 from rfl, Nat.reduceMul, Nat.reduceEqDiff, Go.Addr.add, ↓reduceIte] at hx392_16); have qi392 : (3 < t385.length) = True := eq_true (by omega); (try rw [show ((3 : Int)).toNat = 3 from rfl] at hx392_0); (try rw [show 3 * 17 = 51 from rfl] at hx392_0); (try rw [show ((3 : Int)).toNat = 3 from rfl] at hx392_1); (try rw [show 3 * 17 = 51 from rfl] at hx392_1); (try rw [show ((3 : Int)).toNat = 3 from rfl] at hx392_2); (try rw [show 3 * 17 = 51 from rfl] at hx392_2); (try rw [show ((3 : Int)).toNat = 3 from rfl] at hx392_3); (try rw [show 3 * 17 = 51 from rfl] at hx392_3); (try rw [show ((3 : Int)).toNat = 3 from rfl] at hx392_4); (try rw [show 3 * 17 = 51 from rfl] at hx392_4); (try rw [show ((3 : Int)).toNat = 3 from rfl] at hx392_5); (try rw [show 3 * 17 = 51 from rfl] at hx392_5); (try rw [show ((3 : Int)).toNat = 3 from rfl] at hx392_6); (try rw [show 3 * 17 = 51 from rfl] at hx392_6); (try rw [show ((3 : Int)).toNat = 3 from rfl] at hx392_7); (try rw [show 3 * 17 = 51 from rfl] at hx392_7); (try rw [show ((3 : Int)).toNat = 3 from rfl] at hx392_8); (try rw [show 3 * 17 = 51 from rfl] at hx392_8); (try rw [show ((3 : Int)).toNat = 3 from rfl] at hx392_9); (try rw [show 3 * 17 = 51 from rfl] at hx392_9); (try rw [show ((3 : Int)).toNat = 3 from rfl] at hx392_10); (try rw [show 3 * 17 = 51 from rfl] at hx392_10); (try rw [show ((3 : Int)).toNat = 3 from rfl] at hx392_11); (try rw [show 3 * 17 = 51 from rfl] at hx392_11); (try rw [show ((3 : Int)).toNat = 3 from rfl] at hx392_12); (try rw [show 3 * 17 = 51 from rfl] at hx392_12); (try rw [show ((3 : Int)).toNat = 3 from rfl] at hx392_13); (try rw [show 3 * 17 = 51 from rfl] at hx392_13); (try rw [show ((3 : Int)).toNat = 3 from rfl] at hx392_14); (try rw [show 3 * 17 = 51 from rfl] at hx392_14); (try rw [show ((3 : Int)).toNat = 3 from rfl] at hx392_15); (try rw [show 3 * 17 = 51 from rfl] at hx392_15); (try rw [show ((3 : Int)).toNat = 3 from rfl] at hx392_16); (try rw [show 3 * 17 = 51 from rfl] at hx392_16); have HR392_15 := Aside0.mk hi392_15; have HC392_15 := Aside0.mk hl392_15; clear hi392_15 hl392_15; replace p392 := eq_true p392; replace q392 := eq_true q392))
    have n0_ := Aside0.mk (Kd.R_drew HO346.out)
    have n1_ := Aside0.mk (Kd.R_drew HO355.out)
    have n2_ := Aside0.mk (Kd.R_drew HO364.out)
    have n3_ := Aside0.mk (Kd.R_drew HO370.out)
    have n4_ := Aside0.mk (Kd.R_drew HO373.out)
    have n5_ := Aside0.mk (Kd.R_drew HO381.out)
    have n6_ := Aside0.mk (Kd.R_drew HO384.out)
    have n7_ := Aside0.mk (Kd.S_drew HO388.out)
    have n8_ := Aside0.mk (Kd.R_drew HL389_15.out)
    have n9_ := Aside0.mk (Kd.R_drew HL390_15.out)
    have n10_ := Aside0.mk (Kd.R_drew HL391_15.out)
    have n11_ := Aside0.mk (Kd.R_drew HL392_15.out)
    have n12_ := Aside0.mk (Kd.C_drew HR389_15.out)
    have n13_ := Aside0.mk (Kd.C_drew HR390_15.out)
    have n14_ := Aside0.mk (Kd.C_drew HR391_15.out)
    have n15_ := Aside0.mk (Kd.C_drew HR392_15.out)
    have n16_ := Aside0.mk (below_drew1 HB.out)
    clear HO346
    clear HO355
    clear HO364
    clear HO370
    clear HO373
    clear HO381
    clear HO384
    clear HO388
    clear HL389_15
    clear HL390_15
    clear HL391_15
    clear HL392_15
    clear HR389_15
    clear HR390_15
    clear HR391_15
    clear HR392_15
    clear HB
    have HO346 := n0_
    have HO355 := n1_
    have HO364 := n2_
    have HO370 := n3_
    have HO373 := n4_
    have HO381 := n5_
    have HO384 := n6_
    have HO388 := n7_
    have HL389_15 := n8_
    have HL390_15 := n9_
    have HL391_15 := n10_
    have HL392_15 := n11_
    have HR389_15 := n12_
    have HR390_15 := n13_
    have HR391_15 := n14_
    have HR392_15 := n15_
    have HB := n16_
    clear n0_ n1_ n2_ n3_ n4_ n5_ n6_ n7_ n8_ n9_ n10_ n11_ n12_ n13_ n14_ n15_ n16_
    have p393 : 0 ≤ (0 : Int) := (by omega)
    have q393 : 0 < (t385.length : Int) := of_decide_eq_true qA
    obtain ⟨ad393, A393_15, c393_15, e393, hx393_0, hx393_1, hx393_2, hx393_3, hx393_4, hx393_5, hx393_6, hx393_7, hx393_8, hx393_9, hx393_10, hx393_11, hx393_12, hx393_13, hx393_14, hx393_15, hx393_16, hl393_15, hi393_15⟩ := at_T41 (Kd.S_reads' HO388.out).2.2 0 p393 q393
    (try rw [← Nbq36.out] at hx393_2)
    (try rw [← Nbq40.out] at hx393_2)
    (try rw [← Nbq36.out] at hx393_8)
    (try rw [← Nbq40.out] at hx393_8)
    (try rw [← Nbq36.out] at hx393_9)
    (try rw [← Nbq40.out] at hx393_9)
    (try rw [← Nbq36.out] at hx393_10)
    (try rw [← Nbq40.out] at hx393_10)
    (try rw [← Nbq36.out] at hx393_11)
    (try rw [← Nbq40.out] at hx393_11)
    (try rw [← Nbq36.out] at hx393_14)
    (try rw [← Nbq40.out] at hx393_14)
    obtain rfl : ad389 = ad393 := (by injection e393)
    obtain ⟨ce393, hce393, hMe393, hcc393⟩ := Kd.S_get HO388.out z41 0 p393 (by first | exact q393 | exact of_decide_eq_true qA | (have e_ := (Kd.S_reads' HO388.out).1; omega))
    obtain ⟨ve393_15, rfl, ge393_15⟩ := k41_openM hMe393
    have hv393_15 := hcc393 15 _ rfl
    rw [add_field _ _ 15 (by omega)] at hv393_15
    replace hv393_15 := Option.some.inj (hv393_15.symm.trans hx393_15)
    rw [hv393_15] at ge393_15
    have HL393_15 := Aside0.mk (show Kd.R k36 36 _ _ _ _ ((rd_T41 t385 0).f1) from ge393_15)
    clear hv393_15 ge393_15
    clear hcc393 hce393
    have qi393 : (0 < t385.length) = True := eq_true (by omega)
    (try simp only [show ((0 : Int)).toNat = 0 from rfl] at hx393_0 hx393_1 hx393_2 hx393_3 hx393_4 hx393_5 hx393_6 hx393_7 hx393_8 hx393_9 hx393_10 hx393_11 hx393_12 hx393_13 hx393_14 hx393_15 hx393_16)
    (try simp only [show 0 * 17 = 0 from rfl] at hx393_0 hx393_1 hx393_2 hx393_3 hx393_4 hx393_5 hx393_6 hx393_7 hx393_8 hx393_9 hx393_10 hx393_11 hx393_12 hx393_13 hx393_14 hx393_15 hx393_16)
    (try simp only [Addr.add_zero'] at hx393_0 hx393_1 hx393_2 hx393_3 hx393_4 hx393_5 hx393_6 hx393_7 hx393_8 hx393_9 hx393_10 hx393_11 hx393_12 hx393_13 hx393_14 hx393_15 hx393_16)
    have HR393_15 := Aside0.mk hi393_15
    have HC393_15 := Aside0.mk hl393_15
    clear hi393_15 hl393_15
    replace p393 := eq_true p393
    replace q393 := eq_true q393
    have p394 : 0 ≤ (1 : Int) := (by omega)
    have q394 : 1 < (t385.length : Int) := of_decide_eq_true qA
    obtain ⟨ad394, A394_15, c394_15, e394, hx394_0, hx394_1, hx394_2, hx394_3, hx394_4, hx394_5, hx394_6, hx394_7, hx394_8, hx394_9, hx394_10, hx394_11, hx394_12, hx394_13, hx394_14, hx394_15, hx394_16, hl394_15, hi394_15⟩ := at_T41 (Kd.S_reads' HO388.out).2.2 1 p394 q394
    (try rw [← Nbq36.out] at hx394_2)
    (try rw [← Nbq40.out] at hx394_2)
    (try rw [← Nbq36.out] at hx394_8)
    (try rw [← Nbq40.out] at hx394_8)
    (try rw [← Nbq36.out] at hx394_9)
    (try rw [← Nbq40.out] at hx394_9)
    (try rw [← Nbq36.out] at hx394_10)
    (try rw [← Nbq40.out] at hx394_10)
    (try rw [← Nbq36.out] at hx394_11)
    (try rw [← Nbq40.out] at hx394_11)
    (try rw [← Nbq36.out] at hx394_14)
    (try rw [← Nbq40.out] at hx394_14)
    obtain rfl : ad389 = ad394 := (by injection e394)
    obtain ⟨ce394, hce394, hMe394, hcc394⟩ := Kd.S_get HO388.out z41 1 p394 (by first | exact q394 | exact of_decide_eq_true qA | (have e_ := (Kd.S_reads' HO388.out).1; omega))
    obtain ⟨ve394_15, rfl, ge394_15⟩ := k41_openM hMe394
    have hv394_15 := hcc394 15 _ rfl
    rw [add_field _ _ 15 (by omega)] at hv394_15
    replace hv394_15 := Option.some.inj (hv394_15.symm.trans hx394_15)
    rw [hv394_15] at ge394_15
    have HL394_15 := Aside0.mk (show Kd.R k36 36 _ _ _ _ ((rd_T41 t385 1).f1) from ge394_15)
    clear hv394_15 ge394_15
    clear hcc394 hce394
    (try simp only [show (1 : Int).toNat = 1 from rfl, Nat.reduceMul, Nat.reduceEqDiff, Go.Addr.add, ↓reduceIte] at hx394_0 hx394_1 hx394_2 hx394_3 hx394_4 hx394_5 hx394_6 hx394_7 hx394_8 hx394_9 hx394_10 hx394_11 hx394_12 hx394_13 hx394_14 hx394_15 hx394_16)
    have qi394 : (1 < t385.length) = True := eq_true (by omega)
    (try simp only [show ((1 : Int)).toNat = 1 from rfl] at hx394_0 hx394_1 hx394_2 hx394_3 hx394_4 hx394_5 hx394_6 hx394_7 hx394_8 hx394_9 hx394_10 hx394_11 hx394_12 hx394_13 hx394_14 hx394_15 hx394_16)
    (try simp only [show 1 * 17 = 17 from rfl] at hx394_0 hx394_1 hx394_2 hx394_3 hx394_4 hx394_5 hx394_6 hx394_7 hx394_8 hx394_9 hx394_10 hx394_11 hx394_12 hx394_13 hx394_14 hx394_15 hx394_16)
    have HR394_15 := Aside0.mk hi394_15
    have HC394_15 := Aside0.mk hl394_15
    clear hi394_15 hl394_15
    replace p394 := eq_true p394
    replace q394 := eq_true q394
    have p395 : 0 ≤ (2 : Int) := (by omega)
    have q395 : 2 < (t385.length : Int) := of_decide_eq_true qA
    obtain ⟨ad395, A395_15, c395_15, e395, hx395_0, hx395_1, hx395_2, hx395_3, hx395_4, hx395_5, hx395_6, hx395_7, hx395_8, hx395_9, hx395_10, hx395_11, hx395_12, hx395_13, hx395_14, hx395_15, hx395_16, hl395_15, hi395_15⟩ := at_T41 (Kd.S_reads' HO388.out).2.2 2 p395 q395
    (try rw [← Nbq36.out] at hx395_2)
    (try rw [← Nbq40.out] at hx395_2)
    (try rw [← Nbq36.out] at hx395_8)
    (try rw [← Nbq40.out] at hx395_8)
    (try rw [← Nbq36.out] at hx395_9)
    (try rw [← Nbq40.out] at hx395_9)
    (try rw [← Nbq36.out] at hx395_10)
    (try rw [← Nbq40.out] at hx395_10)
    (try rw [← Nbq36.out] at hx395_11)
    (try rw [← Nbq40.out] at hx395_11)
    (try rw [← Nbq36.out] at hx395_14)
    (try rw [← Nbq40.out] at hx395_14)
    obtain rfl : ad389 = ad395 := (by injection e395)
    obtain ⟨ce395, hce395, hMe395, hcc395⟩ := Kd.S_get HO388.out z41 2 p395 (by first | exact q395 | exact of_decide_eq_true qA | (have e_ := (Kd.S_reads' HO388.out).1; omega))
    obtain ⟨ve395_15, rfl, ge395_15⟩ := k41_openM hMe395
    have hv395_15 := hcc395 15 _ rfl
    rw [add_field _ _ 15 (by omega)] at hv395_15
    replace hv395_15 := Option.some.inj (hv395_15.symm.trans hx395_15)
    rw [hv395_15] at ge395_15
    have HL395_15 := Aside0.mk (show Kd.R k36 36 _ _ _ _ ((rd_T41 t385 2).f1) from ge395_15)
    clear hv395_15 ge395_15
    clear hcc395 hce395
    (try simp only [show (2 : Int).toNat = 2 from rfl, Nat.reduceMul, Nat.reduceEqDiff, Go.Addr.add, ↓reduceIte] at hx395_0 hx395_1 hx395_2 hx395_3 hx395_4 hx395_5 hx395_6 hx395_7 hx395_8 hx395_9 hx395_10 hx395_11 hx395_12 hx395_13 hx395_14 hx395_15 hx395_16)
    have qi395 : (2 < t385.length) = True := eq_true (by omega)
    (try simp only [show ((2 : Int)).toNat = 2 from rfl] at hx395_0 hx395_1 hx395_2 hx395_3 hx395_4 hx395_5 hx395_6 hx395_7 hx395_8 hx395_9 hx395_10 hx395_11 hx395_12 hx395_13 hx395_14 hx395_15 hx395_16)
    (try simp only [show 2 * 17 = 34 from rfl] at hx395_0 hx395_1 hx395_2 hx395_3 hx395_4 hx395_5 hx395_6 hx395_7 hx395_8 hx395_9 hx395_10 hx395_11 hx395_12 hx395_13 hx395_14 hx395_15 hx395_16)
    have HR395_15 := Aside0.mk hi395_15
    have HC395_15 := Aside0.mk hl395_15
    clear hi395_15 hl395_15
    replace p395 := eq_true p395
    replace q395 := eq_true q395
    clear HO346 HO355 HO364 HO370 HO373 HO381 HO384 HO388 HL389_15 HL390_15 HL391_15 HL392_15 HR389_15 HR390_15 HR391_15 HR392_15 HL393_15 HL394_15 HL395_15 HR393_15 HR394_15 HR395_15
    refine start_ (n := 18) (S := fun w' => heldA ad389 t385 A393_15 A394_15 A395_15 c393_15 c394_15 c395_15 w') (ds := []) #[false, false, false, false, false, false, false, false, false, false, false, false, false, false, false, false, false, false] (by kernel_rfl) rfl rfl (show heldA ad389 t385 A393_15 A394_15 A395_15 c393_15 c394_15 c395_15 _ from ⟨hx393_0, hx393_1, hx393_2, hx393_3, hx393_4, hx393_5, hx393_6, hx393_7, hx393_8, hx393_9, hx393_10, hx393_11, hx393_12, hx393_13, hx393_14, hx393_15, hx393_16, hx394_0, hx394_1, hx394_2, hx394_3, hx394_4, hx394_5, hx394_6, hx394_7, hx394_8, hx394_9, hx394_10, hx394_11, hx394_12, hx394_13, hx394_14, hx394_15, hx394_16, hx395_0, hx395_1, hx395_2, hx395_3, hx395_4, hx395_5, hx395_6, hx395_7, hx395_8, hx395_9, hx395_10, hx395_11, hx395_12, hx395_13, hx395_14, hx395_15, hx395_16⟩) (fun hHeld => ?_); refine with_tabW laws_FnLineAnew.tab10 laws_FnLineAnew.bits10 (fun HT_ HW_ => ?_)
    generalize w65.drew = w67 at HB hx393_0 hx393_1 hx393_10 hx393_11 hx393_12 hx393_13 hx393_14 hx393_15 hx393_16 hx393_2 hx393_3 hx393_4 hx393_5 hx393_6 hx393_7 hx393_8 hx393_9 hx394_0 hx394_1 hx394_10 hx394_11 hx394_12 hx394_13 hx394_14 hx394_15 hx394_16 hx394_2 hx394_3 hx394_4 hx394_5 hx394_6 hx394_7 hx394_8 hx394_9 hx395_0 hx395_1 hx395_10 hx395_11 hx395_12 hx395_13 hx395_14 hx395_15 hx395_16 hx395_2 hx395_3 hx395_4 hx395_5 hx395_6 hx395_7 hx395_8 hx395_9 hHeld ⊢
    refine pure_ (i := 0) (N := some 106) (v := ?_) (a' := ?_) #[true, false, false, false, false, false, false, false, false, false, false, false, false, false, false, false, false, false] rfl rfl (any_of HT_.out (by kernel_rfl)) (fun _ _ _ h => h) (Or.inl ⟨by rfl, ?_⟩) ?_ ?_
    rotate_left
    ·intro w'
     go_simp
     with_reducible rfl
    rotate_left
    ·simp only [Act.put, List.setIfInBounds_toArray, List.set_cons_zero, List.set_cons_succ, i64_w, i32_w]
     rfl
    refine pure_ (i := 1) (N := some 107) (v := ?_) (a' := ?_) #[true, true, false, false, false, false, false, false, false, false, false, false, false, false, false, false, false, false] rfl rfl (any_of HT_.out (by kernel_rfl)) (fun _ _ _ h => h) (Or.inl ⟨by rfl, ?_⟩) ?_ ?_
    rotate_left
    ·intro w'
     go_simp
     with_reducible rfl
    rotate_left
    ·simp only [Act.put, List.setIfInBounds_toArray, List.set_cons_zero, List.set_cons_succ, i64_w, i32_w]
     rfl
    refine pure_ (i := 2) (N := some 108) (v := ?_) (a' := ?_) #[true, true, true, false, false, false, false, false, false, false, false, false, false, false, false, false, false, false] rfl rfl (any_of HT_.out (by kernel_rfl)) (fun _ _ _ h => h) (Or.inl ⟨by rfl, ?_⟩) ?_ ?_
    rotate_left
    ·intro w'
     go_simp
     with_reducible rfl
    rotate_left
    ·simp only [Act.put, List.setIfInBounds_toArray, List.set_cons_zero, List.set_cons_succ, i64_w, i32_w]
     rfl
    refine pure_ (i := 4) (N := some 110) (v := ?_) (a' := ?_) #[true, true, true, false, true, false, false, false, false, false, false, false, false, false, false, false, false, false] rfl rfl (any_of HT_.out (by kernel_rfl)) (fun _ _ _ h => h) (Or.inl ⟨by rfl, ?_⟩) ?_ ?_
    rotate_left
    ·intro w'
     go_simp
     with_reducible rfl
    rotate_left
    ·simp only [Act.put, List.setIfInBounds_toArray, List.set_cons_zero, List.set_cons_succ, i64_w, i32_w]
     rfl
    refine pure_ (i := 5) (N := some 111) (v := ?_) (a' := ?_) #[true, true, true, false, true, true, false, false, false, false, false, false, false, false, false, false, false, false] rfl rfl (any_of HT_.out (by kernel_rfl)) (fun _ _ _ h => h) (Or.inl ⟨by rfl, ?_⟩) ?_ ?_
    rotate_left
    ·intro w'
     go_simp
     with_reducible rfl
    rotate_left
    ·simp only [Act.put, List.setIfInBounds_toArray, List.set_cons_zero, List.set_cons_succ, i64_w, i32_w]
     rfl
    refine pure_ (i := 6) (N := some 112) (v := ?_) (a' := ?_) #[true, true, true, false, true, true, true, false, false, false, false, false, false, false, false, false, false, false] rfl rfl (any_of HT_.out (by kernel_rfl)) (fun _ _ _ h => h) (Or.inl ⟨by rfl, ?_⟩) ?_ ?_
    rotate_left
    ·intro w'
     go_simp
     with_reducible rfl
    rotate_left
    ·simp only [Act.put, List.setIfInBounds_toArray, List.set_cons_zero, List.set_cons_succ, i64_w, i32_w]
     rfl
    refine pure_ (i := 8) (N := some 114) (v := ?_) (a' := ?_) #[true, true, true, false, true, true, true, false, true, false, false, false, false, false, false, false, false, false] rfl rfl (any_of HT_.out (by kernel_rfl)) (fun _ _ _ h => h) (Or.inl ⟨by rfl, ?_⟩) ?_ ?_
    rotate_left
    ·intro w'
     go_simp
     with_reducible rfl
    rotate_left
    ·simp only [Act.put, List.setIfInBounds_toArray, List.set_cons_zero, List.set_cons_succ, i64_w, i32_w]
     rfl
    refine pure_ (i := 9) (N := some 115) (v := ?_) (a' := ?_) #[true, true, true, false, true, true, true, false, true, true, false, false, false, false, false, false, false, false] rfl rfl (any_of HT_.out (by kernel_rfl)) (fun _ _ _ h => h) (Or.inl ⟨by rfl, ?_⟩) ?_ ?_
    rotate_left
    ·intro w'
     go_simp
     with_reducible rfl
    rotate_left
    ·simp only [Act.put, List.setIfInBounds_toArray, List.set_cons_zero, List.set_cons_succ, i64_w, i32_w]
     rfl
    refine pure_ (i := 10) (N := some 116) (v := ?_) (a' := ?_) #[true, true, true, false, true, true, true, false, true, true, true, false, false, false, false, false, false, false] rfl rfl (any_of HT_.out (by kernel_rfl)) (fun _ _ _ h => h) (Or.inl ⟨by rfl, ?_⟩) ?_ ?_
    rotate_left
    ·intro w'
     go_simp
     with_reducible rfl
    rotate_left
    ·simp only [Act.put, List.setIfInBounds_toArray, List.set_cons_zero, List.set_cons_succ, i64_w, i32_w]
     rfl
    refine take_ (i := 3) (N := some 109) (v := ?_) (a' := ?_) #[true, true, true, true, true, true, true, false, true, true, true, false, false, false, false, false, false, false] rfl rfl (take_ofW HT_.out HW_.out (by kernel_rfl)) (fun _ _ _ h => h) (Or.inl ⟨by rfl, ?_⟩) hHeld ?_ ?_
    rotate_left
    ·rintro w' hS_
     obtain ⟨s0, s1, s2, s3, s4, s5, s6, s7, s8, s9, s10, s11, s12, s13, s14, s15, s16, s17, s18, s19, s20, s21, s22, s23, s24, s25, s26, s27, s28, s29, s30, s31, s32, s33, s34, s35, s36, s37, s38, s39, s40, s41, s42, s43, s44, s45, s46, s47, s48, s49, s50⟩ := hS_
     go_simp
     with_reducible rfl
    rotate_left
    ·simp only [Act.put, List.setIfInBounds_toArray, List.set_cons_zero, List.set_cons_succ, i64_w, i32_w]
     rfl
    refine take_ (i := 7) (N := some 113) (v := ?_) (a' := ?_) #[true, true, true, true, true, true, true, true, true, true, true, false, false, false, false, false, false, false] rfl rfl (take_ofW HT_.out HW_.out (by kernel_rfl)) (fun _ _ _ h => h) (Or.inl ⟨by rfl, ?_⟩) hHeld ?_ ?_
    rotate_left
    ·rintro w' hS_
     obtain ⟨s0, s1, s2, s3, s4, s5, s6, s7, s8, s9, s10, s11, s12, s13, s14, s15, s16, s17, s18, s19, s20, s21, s22, s23, s24, s25, s26, s27, s28, s29, s30, s31, s32, s33, s34, s35, s36, s37, s38, s39, s40, s41, s42, s43, s44, s45, s46, s47, s48, s49, s50⟩ := hS_
     go_simp
     with_reducible rfl
    rotate_left
    ·simp only [Act.put, List.setIfInBounds_toArray, List.set_cons_zero, List.set_cons_succ, i64_w, i32_w]
     rfl
    refine take_ (i := 11) (N := some 117) (v := ?_) (a' := ?_) #[true, true, true, true, true, true, true, true, true, true, true, true, false, false, false, false, false, false] rfl rfl (take_ofW HT_.out HW_.out (by kernel_rfl)) (fun _ _ _ h => h) (Or.inl ⟨by rfl, ?_⟩) hHeld ?_ ?_
    rotate_left
    ·rintro w' hS_
     obtain ⟨s0, s1, s2, s3, s4, s5, s6, s7, s8, s9, s10, s11, s12, s13, s14, s15, s16, s17, s18, s19, s20, s21, s22, s23, s24, s25, s26, s27, s28, s29, s30, s31, s32, s33, s34, s35, s36, s37, s38, s39, s40, s41, s42, s43, s44, s45, s46, s47, s48, s49, s50⟩ := hS_
     go_simp
     with_reducible rfl
    rotate_left
    ·simp only [Act.put, List.setIfInBounds_toArray, List.set_cons_zero, List.set_cons_succ, i64_w, i32_w]
     rfl
    refine join_ (σ := Nat × Nat × Nat) 3 #[true, true, true, true, true, true, true, true, true, true, true, true, true, true, true, false, false, false] (fun s_ => [(12, .pointer (some ⟨s_.1, 0, none⟩)), (13, .pointer (some ⟨s_.2.1, 0, none⟩)), (14, .pointer (some ⟨s_.2.2, 0, none⟩))]) (fun s_ w' => heldA ad389 t385 A393_15 A394_15 A395_15 c393_15 c394_15 c395_15 w' ∧ Below w.heap.size w w' ∧ blkA w w' ad389 s_.1 ∧ blkA w w' ad389 s_.2.1 ∧ blkA w w' ad389 s_.2.2 ∧ s_.1 ≠ s_.2.1 ∧ s_.1 ≠ s_.2.2 ∧ s_.2.1 ≠ s_.2.2) ?_ ?_
    rotate_left
    ·intro hJ12_13_14
     refine join_ (σ := Nat × Nat) 4 #[true, true, true, true, true, true, true, true, true, true, true, true, true, true, false, false, false, false] (fun s_ => [(12, .pointer (some ⟨s_.1, 0, none⟩)), (13, .pointer (some ⟨s_.2, 0, none⟩))]) (fun s_ w' => heldA ad389 t385 A393_15 A394_15 A395_15 c393_15 c394_15 c395_15 w' ∧ Below w.heap.size w w' ∧ blkA w w' ad389 s_.1 ∧ blkA w w' ad389 s_.2 ∧ s_.1 ≠ s_.2) ?_ ?_
     rotate_left
     ·intro hJ12_13
      refine join_ (σ := Nat × Nat) 4 #[true, true, true, true, true, true, true, true, true, true, true, true, true, false, true, false, false, false] (fun s_ => [(12, .pointer (some ⟨s_.1, 0, none⟩)), (14, .pointer (some ⟨s_.2, 0, none⟩))]) (fun s_ w' => heldA ad389 t385 A393_15 A394_15 A395_15 c393_15 c394_15 c395_15 w' ∧ Below w.heap.size w w' ∧ blkA w w' ad389 s_.1 ∧ blkA w w' ad389 s_.2 ∧ s_.1 ≠ s_.2) ?_ ?_
      rotate_left
      ·intro hJ12_14
       refine join_ (σ := Nat × Nat) 4 #[true, true, true, true, true, true, true, true, true, true, true, true, false, true, true, false, false, false] (fun s_ => [(13, .pointer (some ⟨s_.1, 0, none⟩)), (14, .pointer (some ⟨s_.2, 0, none⟩))]) (fun s_ w' => heldA ad389 t385 A393_15 A394_15 A395_15 c393_15 c394_15 c395_15 w' ∧ Below w.heap.size w w' ∧ blkA w w' ad389 s_.1 ∧ blkA w w' ad389 s_.2 ∧ s_.1 ≠ s_.2) ?_ ?_
       rotate_left
       ·intro hJ13_14
        refine join_ (σ := Nat) 5 #[true, true, true, true, true, true, true, true, true, true, true, true, true, false, false, false, false, false] (fun s_ => [(12, .pointer (some ⟨s_, 0, none⟩))]) (fun s_ w' => heldA ad389 t385 A393_15 A394_15 A395_15 c393_15 c394_15 c395_15 w' ∧ Below w.heap.size w w' ∧ blkA w w' ad389 s_) ?_ ?_
        rotate_left
        ·intro hJ12
         refine join_ (σ := Nat) 5 #[true, true, true, true, true, true, true, true, true, true, true, true, false, true, false, false, false, false] (fun s_ => [(13, .pointer (some ⟨s_, 0, none⟩))]) (fun s_ w' => heldA ad389 t385 A393_15 A394_15 A395_15 c393_15 c394_15 c395_15 w' ∧ Below w.heap.size w w' ∧ blkA w w' ad389 s_) ?_ ?_
         rotate_left
         ·intro hJ13
          refine join_ (σ := Nat) 5 #[true, true, true, true, true, true, true, true, true, true, true, true, false, false, true, false, false, false] (fun s_ => [(14, .pointer (some ⟨s_, 0, none⟩))]) (fun s_ w' => heldA ad389 t385 A393_15 A394_15 A395_15 c393_15 c394_15 c395_15 w' ∧ Below w.heap.size w w' ∧ blkA w w' ad389 s_) ?_ ?_
          rotate_left
          ·intro hJ14
           refine three_ (i := 12) (j := 13) (k := 14) (Ni := some 12) (Nj := some 13) (Nk := some 14) #[true, true, true, true, true, true, true, true, true, true, true, true, true, false, false, false, false, false] #[true, true, true, true, true, true, true, true, true, true, true, true, false, true, false, false, false, false] #[true, true, true, true, true, true, true, true, true, true, true, true, false, false, true, false, false, false] rfl rfl rfl rfl rfl rfl (three_of HT_.out (by kernel_rfl)) (by decide) (by decide) (by decide) (fun K hK => ?_) (fun K hK => ?_) (fun K hK => ?_)
           ·skip
            refine box_step ?hg (N := 12) ?hd (cs := #[.int .u64 0, .int .i64 0, .bool false, .string (⟨#[]⟩ : ByteArray), .int .u64 0, .int .i64 0, .int .i64 0, .int .i64 0, .bool false, .bool false, .bool false, .bool false, .int .i64 0, .int .i64 0, .bool false]) (t := 38) ?hr ?_; (case hd => rfl); (case hg => rfl); (case hr => first | (go_simp; done) | (go_simp; rfl))
            intro gb396 hg w68 hbox hb
            have BLgb396 : blkA w w68 ad389 gb396 := ⟨hbox, by rw [hg]; exact below_size HB.out, heldA_ne hHeld hg⟩
            replace HB := Aside0.mk (below_step HB.out hb)
            refine hK.out _ _ (heldA_below hb hHeld) (fun hHeld => ?_)
            clear hK K
            refine norm_ (a' := ?_) ?_ ?_
            rotate_left
            ·show Act.put _ (some 12) _ = _
             simp only [Act.put, List.setIfInBounds_toArray, List.set_cons_zero, List.set_cons_succ, i64_w, i32_w]
             rfl
            exact norm_ qNn (hJ12 (gb396) _ ⟨hHeld, HB.out, BLgb396⟩)
           ·skip
            refine box_step ?hg (N := 13) ?hd (cs := #[.int .u64 0, .int .i64 0, .bool false, .string (⟨#[]⟩ : ByteArray), .int .u64 0, .int .i64 0, .int .i64 0, .int .i64 0, .bool false, .bool false, .bool false, .bool false, .int .i64 0, .int .i64 0, .bool false]) (t := 38) ?hr ?_; (case hd => rfl); (case hg => rfl); (case hr => first | (go_simp; done) | (go_simp; rfl))
            intro gb397 hg w68 hbox hb
            have BLgb397 : blkA w w68 ad389 gb397 := ⟨hbox, by rw [hg]; exact below_size HB.out, heldA_ne hHeld hg⟩
            replace HB := Aside0.mk (below_step HB.out hb)
            refine hK.out _ _ (heldA_below hb hHeld) (fun hHeld => ?_)
            clear hK K
            refine norm_ (a' := ?_) ?_ ?_
            rotate_left
            ·show Act.put _ (some 13) _ = _
             simp only [Act.put, List.setIfInBounds_toArray, List.set_cons_zero, List.set_cons_succ, i64_w, i32_w]
             rfl
            exact norm_ qNn (hJ13 (gb397) _ ⟨hHeld, HB.out, BLgb397⟩)
           ·skip
            refine box_step ?hg (N := 14) ?hd (cs := #[.int .u64 0, .int .i64 0, .bool false, .string (⟨#[]⟩ : ByteArray), .int .u64 0, .int .i64 0, .int .i64 0, .int .i64 0, .bool false, .bool false, .bool false, .bool false, .int .i64 0, .int .i64 0, .bool false]) (t := 38) ?hr ?_; (case hd => rfl); (case hg => rfl); (case hr => first | (go_simp; done) | (go_simp; rfl))
            intro gb398 hg w68 hbox hb
            have BLgb398 : blkA w w68 ad389 gb398 := ⟨hbox, by rw [hg]; exact below_size HB.out, heldA_ne hHeld hg⟩
            replace HB := Aside0.mk (below_step HB.out hb)
            refine hK.out _ _ (heldA_below hb hHeld) (fun hHeld => ?_)
            clear hK K
            refine norm_ (a' := ?_) ?_ ?_
            rotate_left
            ·show Act.put _ (some 14) _ = _
             simp only [Act.put, List.setIfInBounds_toArray, List.set_cons_zero, List.set_cons_succ, i64_w, i32_w]
             rfl
            exact norm_ qNn (hJ14 (gb398) _ ⟨hHeld, HB.out, BLgb398⟩)
          ·skip
           rintro gb398 w68 ⟨hHeld, HB0_, BLgb398⟩
           have HB := Aside0.mk HB0_
           clear HB0_
           refine norm_ (a' := ?_) ?_ ?_
           rotate_left
           ·simp only [putAll, Act.put, List.setIfInBounds_toArray, List.set_cons_zero, List.set_cons_succ]
            rfl
           refine two_ (i := 12) (j := 13) (Ni := some 12) (Nj := some 13) #[true, true, true, true, true, true, true, true, true, true, true, true, true, false, true, false, false, false] #[true, true, true, true, true, true, true, true, true, true, true, true, false, true, true, false, false, false] rfl rfl rfl rfl (two_of HT_.out (by kernel_rfl)) (by decide) (by decide) (fun K hK => ?_) (fun K hK => ?_)
           ·skip
            refine box_step ?hg (N := 12) ?hd (cs := #[.int .u64 0, .int .i64 0, .bool false, .string (⟨#[]⟩ : ByteArray), .int .u64 0, .int .i64 0, .int .i64 0, .int .i64 0, .bool false, .bool false, .bool false, .bool false, .int .i64 0, .int .i64 0, .bool false]) (t := 38) ?hr ?_; (case hd => rfl); (case hg => rfl); (case hr => first | (go_simp; done) | (go_simp; rfl))
            intro gb396 hg w69 hbox hb
            have Mgb398 := blkA_ne BLgb398 hg
            replace BLgb398 := blkA_below hb BLgb398
            have BLgb396 : blkA w w69 ad389 gb396 := ⟨hbox, by rw [hg]; exact below_size HB.out, heldA_ne hHeld hg⟩
            replace HB := Aside0.mk (below_step HB.out hb)
            refine hK.out _ _ (heldA_below hb hHeld) (fun hHeld => ?_)
            clear hK K
            refine norm_ (a' := ?_) ?_ ?_
            rotate_left
            ·show Act.put _ (some 12) _ = _
             simp only [Act.put, List.setIfInBounds_toArray, List.set_cons_zero, List.set_cons_succ, i64_w, i32_w]
             rfl
            exact norm_ qNn (hJ12_14 (gb396, gb398) _ ⟨hHeld, HB.out, BLgb396, BLgb398, Mgb398.symm⟩)
           ·skip
            refine box_step ?hg (N := 13) ?hd (cs := #[.int .u64 0, .int .i64 0, .bool false, .string (⟨#[]⟩ : ByteArray), .int .u64 0, .int .i64 0, .int .i64 0, .int .i64 0, .bool false, .bool false, .bool false, .bool false, .int .i64 0, .int .i64 0, .bool false]) (t := 38) ?hr ?_; (case hd => rfl); (case hg => rfl); (case hr => first | (go_simp; done) | (go_simp; rfl))
            intro gb397 hg w69 hbox hb
            have Mgb398 := blkA_ne BLgb398 hg
            replace BLgb398 := blkA_below hb BLgb398
            have BLgb397 : blkA w w69 ad389 gb397 := ⟨hbox, by rw [hg]; exact below_size HB.out, heldA_ne hHeld hg⟩
            replace HB := Aside0.mk (below_step HB.out hb)
            refine hK.out _ _ (heldA_below hb hHeld) (fun hHeld => ?_)
            clear hK K
            refine norm_ (a' := ?_) ?_ ?_
            rotate_left
            ·show Act.put _ (some 13) _ = _
             simp only [Act.put, List.setIfInBounds_toArray, List.set_cons_zero, List.set_cons_succ, i64_w, i32_w]
             rfl
            exact norm_ qNn (hJ13_14 (gb397, gb398) _ ⟨hHeld, HB.out, BLgb397, BLgb398, Mgb398.symm⟩)
         ·skip
          rintro gb397 w68 ⟨hHeld, HB0_, BLgb397⟩
          have HB := Aside0.mk HB0_
          clear HB0_
          refine norm_ (a' := ?_) ?_ ?_
          rotate_left
          ·simp only [putAll, Act.put, List.setIfInBounds_toArray, List.set_cons_zero, List.set_cons_succ]
           rfl
          refine two_ (i := 12) (j := 14) (Ni := some 12) (Nj := some 14) #[true, true, true, true, true, true, true, true, true, true, true, true, true, true, false, false, false, false] #[true, true, true, true, true, true, true, true, true, true, true, true, false, true, true, false, false, false] rfl rfl rfl rfl (two_of HT_.out (by kernel_rfl)) (by decide) (by decide) (fun K hK => ?_) (fun K hK => ?_)
          ·skip
           refine box_step ?hg (N := 12) ?hd (cs := #[.int .u64 0, .int .i64 0, .bool false, .string (⟨#[]⟩ : ByteArray), .int .u64 0, .int .i64 0, .int .i64 0, .int .i64 0, .bool false, .bool false, .bool false, .bool false, .int .i64 0, .int .i64 0, .bool false]) (t := 38) ?hr ?_; (case hd => rfl); (case hg => rfl); (case hr => first | (go_simp; done) | (go_simp; rfl))
           intro gb396 hg w69 hbox hb
           have Mgb397 := blkA_ne BLgb397 hg
           replace BLgb397 := blkA_below hb BLgb397
           have BLgb396 : blkA w w69 ad389 gb396 := ⟨hbox, by rw [hg]; exact below_size HB.out, heldA_ne hHeld hg⟩
           replace HB := Aside0.mk (below_step HB.out hb)
           refine hK.out _ _ (heldA_below hb hHeld) (fun hHeld => ?_)
           clear hK K
           refine norm_ (a' := ?_) ?_ ?_
           rotate_left
           ·show Act.put _ (some 12) _ = _
            simp only [Act.put, List.setIfInBounds_toArray, List.set_cons_zero, List.set_cons_succ, i64_w, i32_w]
            rfl
           exact norm_ qNn (hJ12_13 (gb396, gb397) _ ⟨hHeld, HB.out, BLgb396, BLgb397, Mgb397.symm⟩)
          ·skip
           refine box_step ?hg (N := 14) ?hd (cs := #[.int .u64 0, .int .i64 0, .bool false, .string (⟨#[]⟩ : ByteArray), .int .u64 0, .int .i64 0, .int .i64 0, .int .i64 0, .bool false, .bool false, .bool false, .bool false, .int .i64 0, .int .i64 0, .bool false]) (t := 38) ?hr ?_; (case hd => rfl); (case hg => rfl); (case hr => first | (go_simp; done) | (go_simp; rfl))
           intro gb398 hg w69 hbox hb
           have Mgb397 := blkA_ne BLgb397 hg
           replace BLgb397 := blkA_below hb BLgb397
           have BLgb398 : blkA w w69 ad389 gb398 := ⟨hbox, by rw [hg]; exact below_size HB.out, heldA_ne hHeld hg⟩
           replace HB := Aside0.mk (below_step HB.out hb)
           refine hK.out _ _ (heldA_below hb hHeld) (fun hHeld => ?_)
           clear hK K
           refine norm_ (a' := ?_) ?_ ?_
           rotate_left
           ·show Act.put _ (some 14) _ = _
            simp only [Act.put, List.setIfInBounds_toArray, List.set_cons_zero, List.set_cons_succ, i64_w, i32_w]
            rfl
           exact norm_ qNn (hJ13_14 (gb397, gb398) _ ⟨hHeld, HB.out, BLgb397, BLgb398, Mgb397⟩)
        ·skip
         rintro gb396 w68 ⟨hHeld, HB0_, BLgb396⟩
         have HB := Aside0.mk HB0_
         clear HB0_
         refine norm_ (a' := ?_) ?_ ?_
         rotate_left
         ·simp only [putAll, Act.put, List.setIfInBounds_toArray, List.set_cons_zero, List.set_cons_succ]
          rfl
         refine two_ (i := 13) (j := 14) (Ni := some 13) (Nj := some 14) #[true, true, true, true, true, true, true, true, true, true, true, true, true, true, false, false, false, false] #[true, true, true, true, true, true, true, true, true, true, true, true, true, false, true, false, false, false] rfl rfl rfl rfl (two_of HT_.out (by kernel_rfl)) (by decide) (by decide) (fun K hK => ?_) (fun K hK => ?_)
         ·skip
          refine box_step ?hg (N := 13) ?hd (cs := #[.int .u64 0, .int .i64 0, .bool false, .string (⟨#[]⟩ : ByteArray), .int .u64 0, .int .i64 0, .int .i64 0, .int .i64 0, .bool false, .bool false, .bool false, .bool false, .int .i64 0, .int .i64 0, .bool false]) (t := 38) ?hr ?_; (case hd => rfl); (case hg => rfl); (case hr => first | (go_simp; done) | (go_simp; rfl))
          intro gb397 hg w69 hbox hb
          have Mgb396 := blkA_ne BLgb396 hg
          replace BLgb396 := blkA_below hb BLgb396
          have BLgb397 : blkA w w69 ad389 gb397 := ⟨hbox, by rw [hg]; exact below_size HB.out, heldA_ne hHeld hg⟩
          replace HB := Aside0.mk (below_step HB.out hb)
          refine hK.out _ _ (heldA_below hb hHeld) (fun hHeld => ?_)
          clear hK K
          refine norm_ (a' := ?_) ?_ ?_
          rotate_left
          ·show Act.put _ (some 13) _ = _
           simp only [Act.put, List.setIfInBounds_toArray, List.set_cons_zero, List.set_cons_succ, i64_w, i32_w]
           rfl
          exact norm_ qNn (hJ12_13 (gb396, gb397) _ ⟨hHeld, HB.out, BLgb396, BLgb397, Mgb396⟩)
         ·skip
          refine box_step ?hg (N := 14) ?hd (cs := #[.int .u64 0, .int .i64 0, .bool false, .string (⟨#[]⟩ : ByteArray), .int .u64 0, .int .i64 0, .int .i64 0, .int .i64 0, .bool false, .bool false, .bool false, .bool false, .int .i64 0, .int .i64 0, .bool false]) (t := 38) ?hr ?_; (case hd => rfl); (case hg => rfl); (case hr => first | (go_simp; done) | (go_simp; rfl))
          intro gb398 hg w69 hbox hb
          have Mgb396 := blkA_ne BLgb396 hg
          replace BLgb396 := blkA_below hb BLgb396
          have BLgb398 : blkA w w69 ad389 gb398 := ⟨hbox, by rw [hg]; exact below_size HB.out, heldA_ne hHeld hg⟩
          replace HB := Aside0.mk (below_step HB.out hb)
          refine hK.out _ _ (heldA_below hb hHeld) (fun hHeld => ?_)
          clear hK K
          refine norm_ (a' := ?_) ?_ ?_
          rotate_left
          ·show Act.put _ (some 14) _ = _
           simp only [Act.put, List.setIfInBounds_toArray, List.set_cons_zero, List.set_cons_succ, i64_w, i32_w]
           rfl
          exact norm_ qNn (hJ12_14 (gb396, gb398) _ ⟨hHeld, HB.out, BLgb396, BLgb398, Mgb396⟩)
       ·skip
        rintro ⟨gb397, gb398⟩ w69 ⟨hHeld, HB0_, BLgb397, BLgb398, Ngb397_gb398⟩
        have HB := Aside0.mk HB0_
        clear HB0_
        refine norm_ (a' := ?_) ?_ ?_
        rotate_left
        ·simp only [putAll, Act.put, List.setIfInBounds_toArray, List.set_cons_zero, List.set_cons_succ]
         rfl
        refine one_ (i := 12) (N := some 12) #[true, true, true, true, true, true, true, true, true, true, true, true, true, true, true, false, false, false] rfl rfl (one_of HT_.out (by kernel_rfl)) (by decide) (fun K hK => ?_)
        refine box_step ?hg (N := 12) ?hd (cs := #[.int .u64 0, .int .i64 0, .bool false, .string (⟨#[]⟩ : ByteArray), .int .u64 0, .int .i64 0, .int .i64 0, .int .i64 0, .bool false, .bool false, .bool false, .bool false, .int .i64 0, .int .i64 0, .bool false]) (t := 38) ?hr ?_; (case hd => rfl); (case hg => rfl); (case hr => first | (go_simp; done) | (go_simp; rfl))
        intro gb396 hg w70 hbox hb
        have Mgb397 := blkA_ne BLgb397 hg
        have Mgb398 := blkA_ne BLgb398 hg
        replace BLgb397 := blkA_below hb BLgb397
        replace BLgb398 := blkA_below hb BLgb398
        have BLgb396 : blkA w w70 ad389 gb396 := ⟨hbox, by rw [hg]; exact below_size HB.out, heldA_ne hHeld hg⟩
        replace HB := Aside0.mk (below_step HB.out hb)
        refine hK.out _ _ (heldA_below hb hHeld) (fun hHeld => ?_)
        clear hK K
        refine norm_ (a' := ?_) ?_ ?_
        rotate_left
        ·show Act.put _ (some 12) _ = _
         simp only [Act.put, List.setIfInBounds_toArray, List.set_cons_zero, List.set_cons_succ, i64_w, i32_w]
         rfl
        exact norm_ qNn (hJ12_13_14 (gb396, gb397, gb398) _ ⟨hHeld, HB.out, BLgb396, BLgb397, BLgb398, Mgb397.symm, Mgb398.symm, Ngb397_gb398⟩)
      ·skip
       rintro ⟨gb396, gb398⟩ w69 ⟨hHeld, HB0_, BLgb396, BLgb398, Ngb396_gb398⟩
       have HB := Aside0.mk HB0_
       clear HB0_
       refine norm_ (a' := ?_) ?_ ?_
       rotate_left
       ·simp only [putAll, Act.put, List.setIfInBounds_toArray, List.set_cons_zero, List.set_cons_succ]
        rfl
       refine one_ (i := 13) (N := some 13) #[true, true, true, true, true, true, true, true, true, true, true, true, true, true, true, false, false, false] rfl rfl (one_of HT_.out (by kernel_rfl)) (by decide) (fun K hK => ?_)
       refine box_step ?hg (N := 13) ?hd (cs := #[.int .u64 0, .int .i64 0, .bool false, .string (⟨#[]⟩ : ByteArray), .int .u64 0, .int .i64 0, .int .i64 0, .int .i64 0, .bool false, .bool false, .bool false, .bool false, .int .i64 0, .int .i64 0, .bool false]) (t := 38) ?hr ?_; (case hd => rfl); (case hg => rfl); (case hr => first | (go_simp; done) | (go_simp; rfl))
       intro gb397 hg w70 hbox hb
       have Mgb396 := blkA_ne BLgb396 hg
       have Mgb398 := blkA_ne BLgb398 hg
       replace BLgb396 := blkA_below hb BLgb396
       replace BLgb398 := blkA_below hb BLgb398
       have BLgb397 : blkA w w70 ad389 gb397 := ⟨hbox, by rw [hg]; exact below_size HB.out, heldA_ne hHeld hg⟩
       replace HB := Aside0.mk (below_step HB.out hb)
       refine hK.out _ _ (heldA_below hb hHeld) (fun hHeld => ?_)
       clear hK K
       refine norm_ (a' := ?_) ?_ ?_
       rotate_left
       ·show Act.put _ (some 13) _ = _
        simp only [Act.put, List.setIfInBounds_toArray, List.set_cons_zero, List.set_cons_succ, i64_w, i32_w]
        rfl
       exact norm_ qNn (hJ12_13_14 (gb396, gb397, gb398) _ ⟨hHeld, HB.out, BLgb396, BLgb397, BLgb398, Mgb396, Ngb396_gb398, Mgb398.symm⟩)
     ·skip
      rintro ⟨gb396, gb397⟩ w69 ⟨hHeld, HB0_, BLgb396, BLgb397, Ngb396_gb397⟩
      have HB := Aside0.mk HB0_
      clear HB0_
      refine norm_ (a' := ?_) ?_ ?_
      rotate_left
      ·simp only [putAll, Act.put, List.setIfInBounds_toArray, List.set_cons_zero, List.set_cons_succ]
       rfl
      refine one_ (i := 14) (N := some 14) #[true, true, true, true, true, true, true, true, true, true, true, true, true, true, true, false, false, false] rfl rfl (one_of HT_.out (by kernel_rfl)) (by decide) (fun K hK => ?_)
      refine box_step ?hg (N := 14) ?hd (cs := #[.int .u64 0, .int .i64 0, .bool false, .string (⟨#[]⟩ : ByteArray), .int .u64 0, .int .i64 0, .int .i64 0, .int .i64 0, .bool false, .bool false, .bool false, .bool false, .int .i64 0, .int .i64 0, .bool false]) (t := 38) ?hr ?_; (case hd => rfl); (case hg => rfl); (case hr => first | (go_simp; done) | (go_simp; rfl))
      intro gb398 hg w70 hbox hb
      have Mgb396 := blkA_ne BLgb396 hg
      have Mgb397 := blkA_ne BLgb397 hg
      replace BLgb396 := blkA_below hb BLgb396
      replace BLgb397 := blkA_below hb BLgb397
      have BLgb398 : blkA w w70 ad389 gb398 := ⟨hbox, by rw [hg]; exact below_size HB.out, heldA_ne hHeld hg⟩
      replace HB := Aside0.mk (below_step HB.out hb)
      refine hK.out _ _ (heldA_below hb hHeld) (fun hHeld => ?_)
      clear hK K
      refine norm_ (a' := ?_) ?_ ?_
      rotate_left
      ·show Act.put _ (some 14) _ = _
       simp only [Act.put, List.setIfInBounds_toArray, List.set_cons_zero, List.set_cons_succ, i64_w, i32_w]
       rfl
      exact norm_ qNn (hJ12_13_14 (gb396, gb397, gb398) _ ⟨hHeld, HB.out, BLgb396, BLgb397, BLgb398, Ngb396_gb397, Mgb396, Mgb397⟩)
    rintro ⟨gb396, gb397, gb398⟩ w70 ⟨hHeld, HB0_, BLgb396, BLgb397, BLgb398, Ngb396_gb397, Ngb396_gb398, Ngb397_gb398⟩
    have HB := Aside0.mk HB0_
    clear HB0_
    have BK396 := Aside0.mk BLgb396.1
    have GE396 := Aside0.mk BLgb396.2.1
    have NE396 := BLgb396.2.2
    have BK397 := Aside0.mk BLgb397.1
    have GE397 := Aside0.mk BLgb397.2.1
    have NE397 := BLgb397.2.2
    have BK398 := Aside0.mk BLgb398.1
    have GE398 := Aside0.mk BLgb398.2.1
    have NE398 := BLgb398.2.2
    have NB396_397 := Aside0.mk Ngb396_gb397
    have NB397_396 := Aside0.mk Ngb396_gb397.symm
    have NB396_398 := Aside0.mk Ngb396_gb398
    have NB398_396 := Aside0.mk Ngb396_gb398.symm
    have NB397_398 := Aside0.mk Ngb397_gb398
    have NB398_397 := Aside0.mk Ngb397_gb398.symm
    clear BLgb396 BLgb397 BLgb398 Ngb396_gb397 Ngb396_gb398 Ngb397_gb398
    refine norm_ (a' := ?_) ?_ ?_
    rotate_left
    ·simp only [putAll, Act.put, List.setIfInBounds_toArray, List.set_cons_zero, List.set_cons_succ]
     rfl
    refine one_ (i := 15) (N := none) #[true, true, true, true, true, true, true, true, true, true, true, true, true, true, true, true, false, false] rfl rfl (one_of HT_.out (by kernel_rfl)) (by decide) (fun K hK => ?_)
    refine srow_ (by rfl) rfl 38 (.tmp 12) (.tmp 109) rfl gb396 (#[.int .u64 ((rd_T41 t385 0).f0.f0), .int .i64 ((rd_T41 t385 0).f0.f1), .bool ((rd_T41 t385 0).f0.f2.f0), .string ((rd_T41 t385 0).f0.f2.f1), .int .u64 ((rd_T41 t385 0).f0.f2.f2), .int .i64 ((rd_T41 t385 0).f0.f2.f3), .int .i64 ((rd_T41 t385 0).f0.f3), .int .i64 ((rd_T41 t385 0).f0.f4), .bool ((rd_T41 t385 0).f0.f5), .bool ((rd_T41 t385 0).f0.f6), .bool ((rd_T41 t385 0).f0.f7), .bool ((rd_T41 t385 0).f0.f8), .int .i64 ((rd_T41 t385 0).f0.f9), .int .i64 ((rd_T41 t385 0).f0.f10), .bool true]) rfl rfl 38 _ BK396.out (by kernel_rfl) rfl (by simp [Value.oneCell']) ?_
    refine hK.out _ _ (heldA_row NE396 hHeld) (fun hHeld => ?_)
    clear hK K
    have R0_396 := setRow_heap w70 gb396 _ (#[.int .u64 ((rd_T41 t385 0).f0.f0), .int .i64 ((rd_T41 t385 0).f0.f1), .bool ((rd_T41 t385 0).f0.f2.f0), .string ((rd_T41 t385 0).f0.f2.f1), .int .u64 ((rd_T41 t385 0).f0.f2.f2), .int .i64 ((rd_T41 t385 0).f0.f2.f3), .int .i64 ((rd_T41 t385 0).f0.f3), .int .i64 ((rd_T41 t385 0).f0.f4), .bool ((rd_T41 t385 0).f0.f5), .bool ((rd_T41 t385 0).f0.f6), .bool ((rd_T41 t385 0).f0.f7), .bool ((rd_T41 t385 0).f0.f8), .int .i64 ((rd_T41 t385 0).f0.f9), .int .i64 ((rd_T41 t385 0).f0.f10), .bool true]) _ _ BK396.out
    have R0_397 := (setRow_other w70 gb396 gb397 (#[.int .u64 ((rd_T41 t385 0).f0.f0), .int .i64 ((rd_T41 t385 0).f0.f1), .bool ((rd_T41 t385 0).f0.f2.f0), .string ((rd_T41 t385 0).f0.f2.f1), .int .u64 ((rd_T41 t385 0).f0.f2.f2), .int .i64 ((rd_T41 t385 0).f0.f2.f3), .int .i64 ((rd_T41 t385 0).f0.f3), .int .i64 ((rd_T41 t385 0).f0.f4), .bool ((rd_T41 t385 0).f0.f5), .bool ((rd_T41 t385 0).f0.f6), .bool ((rd_T41 t385 0).f0.f7), .bool ((rd_T41 t385 0).f0.f8), .int .i64 ((rd_T41 t385 0).f0.f9), .int .i64 ((rd_T41 t385 0).f0.f10), .bool true]) NB397_396.out).trans BK397.out
    have R0_398 := (setRow_other w70 gb396 gb398 (#[.int .u64 ((rd_T41 t385 0).f0.f0), .int .i64 ((rd_T41 t385 0).f0.f1), .bool ((rd_T41 t385 0).f0.f2.f0), .string ((rd_T41 t385 0).f0.f2.f1), .int .u64 ((rd_T41 t385 0).f0.f2.f2), .int .i64 ((rd_T41 t385 0).f0.f2.f3), .int .i64 ((rd_T41 t385 0).f0.f3), .int .i64 ((rd_T41 t385 0).f0.f4), .bool ((rd_T41 t385 0).f0.f5), .bool ((rd_T41 t385 0).f0.f6), .bool ((rd_T41 t385 0).f0.f7), .bool ((rd_T41 t385 0).f0.f8), .int .i64 ((rd_T41 t385 0).f0.f9), .int .i64 ((rd_T41 t385 0).f0.f10), .bool true]) NB398_396.out).trans BK398.out
    have HB2 := below_srow HB.out GE396.out (#[.int .u64 ((rd_T41 t385 0).f0.f0), .int .i64 ((rd_T41 t385 0).f0.f1), .bool ((rd_T41 t385 0).f0.f2.f0), .string ((rd_T41 t385 0).f0.f2.f1), .int .u64 ((rd_T41 t385 0).f0.f2.f2), .int .i64 ((rd_T41 t385 0).f0.f2.f3), .int .i64 ((rd_T41 t385 0).f0.f3), .int .i64 ((rd_T41 t385 0).f0.f4), .bool ((rd_T41 t385 0).f0.f5), .bool ((rd_T41 t385 0).f0.f6), .bool ((rd_T41 t385 0).f0.f7), .bool ((rd_T41 t385 0).f0.f8), .int .i64 ((rd_T41 t385 0).f0.f9), .int .i64 ((rd_T41 t385 0).f0.f10), .bool true])
    generalize w70.setRow gb396 (#[.int .u64 ((rd_T41 t385 0).f0.f0), .int .i64 ((rd_T41 t385 0).f0.f1), .bool ((rd_T41 t385 0).f0.f2.f0), .string ((rd_T41 t385 0).f0.f2.f1), .int .u64 ((rd_T41 t385 0).f0.f2.f2), .int .i64 ((rd_T41 t385 0).f0.f2.f3), .int .i64 ((rd_T41 t385 0).f0.f3), .int .i64 ((rd_T41 t385 0).f0.f4), .bool ((rd_T41 t385 0).f0.f5), .bool ((rd_T41 t385 0).f0.f6), .bool ((rd_T41 t385 0).f0.f7), .bool ((rd_T41 t385 0).f0.f8), .int .i64 ((rd_T41 t385 0).f0.f9), .int .i64 ((rd_T41 t385 0).f0.f10), .bool true]) = w72 at R0_396 R0_397 R0_398 HB2 hHeld ⊢
    refine one_ (i := 16) (N := none) #[true, true, true, true, true, true, true, true, true, true, true, true, true, true, true, true, true, false] rfl rfl (one_of HT_.out (by kernel_rfl)) (by decide) (fun K hK => ?_)
    refine srow_ (by rfl) rfl 38 (.tmp 13) (.tmp 113) rfl gb397 (#[.int .u64 ((rd_T41 t385 1).f0.f0), .int .i64 ((rd_T41 t385 1).f0.f1), .bool ((rd_T41 t385 1).f0.f2.f0), .string ((rd_T41 t385 1).f0.f2.f1), .int .u64 ((rd_T41 t385 1).f0.f2.f2), .int .i64 ((rd_T41 t385 1).f0.f2.f3), .int .i64 ((rd_T41 t385 1).f0.f3), .int .i64 ((rd_T41 t385 1).f0.f4), .bool ((rd_T41 t385 1).f0.f5), .bool ((rd_T41 t385 1).f0.f6), .bool ((rd_T41 t385 1).f0.f7), .bool ((rd_T41 t385 1).f0.f8), .int .i64 ((rd_T41 t385 1).f0.f9), .int .i64 ((rd_T41 t385 1).f0.f10), .bool ((rd_T41 t385 1).f0.f11)]) rfl rfl 38 _ R0_397 (by kernel_rfl) rfl (by simp [Value.oneCell']) ?_
    refine hK.out _ _ (heldA_row NE397 hHeld) (fun hHeld => ?_)
    clear hK K
    have R1_396 := (setRow_other w72 gb397 gb396 (#[.int .u64 ((rd_T41 t385 1).f0.f0), .int .i64 ((rd_T41 t385 1).f0.f1), .bool ((rd_T41 t385 1).f0.f2.f0), .string ((rd_T41 t385 1).f0.f2.f1), .int .u64 ((rd_T41 t385 1).f0.f2.f2), .int .i64 ((rd_T41 t385 1).f0.f2.f3), .int .i64 ((rd_T41 t385 1).f0.f3), .int .i64 ((rd_T41 t385 1).f0.f4), .bool ((rd_T41 t385 1).f0.f5), .bool ((rd_T41 t385 1).f0.f6), .bool ((rd_T41 t385 1).f0.f7), .bool ((rd_T41 t385 1).f0.f8), .int .i64 ((rd_T41 t385 1).f0.f9), .int .i64 ((rd_T41 t385 1).f0.f10), .bool ((rd_T41 t385 1).f0.f11)]) NB396_397.out).trans R0_396
    have R1_397 := setRow_heap w72 gb397 _ (#[.int .u64 ((rd_T41 t385 1).f0.f0), .int .i64 ((rd_T41 t385 1).f0.f1), .bool ((rd_T41 t385 1).f0.f2.f0), .string ((rd_T41 t385 1).f0.f2.f1), .int .u64 ((rd_T41 t385 1).f0.f2.f2), .int .i64 ((rd_T41 t385 1).f0.f2.f3), .int .i64 ((rd_T41 t385 1).f0.f3), .int .i64 ((rd_T41 t385 1).f0.f4), .bool ((rd_T41 t385 1).f0.f5), .bool ((rd_T41 t385 1).f0.f6), .bool ((rd_T41 t385 1).f0.f7), .bool ((rd_T41 t385 1).f0.f8), .int .i64 ((rd_T41 t385 1).f0.f9), .int .i64 ((rd_T41 t385 1).f0.f10), .bool ((rd_T41 t385 1).f0.f11)]) _ _ R0_397
    have R1_398 := (setRow_other w72 gb397 gb398 (#[.int .u64 ((rd_T41 t385 1).f0.f0), .int .i64 ((rd_T41 t385 1).f0.f1), .bool ((rd_T41 t385 1).f0.f2.f0), .string ((rd_T41 t385 1).f0.f2.f1), .int .u64 ((rd_T41 t385 1).f0.f2.f2), .int .i64 ((rd_T41 t385 1).f0.f2.f3), .int .i64 ((rd_T41 t385 1).f0.f3), .int .i64 ((rd_T41 t385 1).f0.f4), .bool ((rd_T41 t385 1).f0.f5), .bool ((rd_T41 t385 1).f0.f6), .bool ((rd_T41 t385 1).f0.f7), .bool ((rd_T41 t385 1).f0.f8), .int .i64 ((rd_T41 t385 1).f0.f9), .int .i64 ((rd_T41 t385 1).f0.f10), .bool ((rd_T41 t385 1).f0.f11)]) NB398_397.out).trans R0_398
    have HB3 := below_srow HB2 GE397.out (#[.int .u64 ((rd_T41 t385 1).f0.f0), .int .i64 ((rd_T41 t385 1).f0.f1), .bool ((rd_T41 t385 1).f0.f2.f0), .string ((rd_T41 t385 1).f0.f2.f1), .int .u64 ((rd_T41 t385 1).f0.f2.f2), .int .i64 ((rd_T41 t385 1).f0.f2.f3), .int .i64 ((rd_T41 t385 1).f0.f3), .int .i64 ((rd_T41 t385 1).f0.f4), .bool ((rd_T41 t385 1).f0.f5), .bool ((rd_T41 t385 1).f0.f6), .bool ((rd_T41 t385 1).f0.f7), .bool ((rd_T41 t385 1).f0.f8), .int .i64 ((rd_T41 t385 1).f0.f9), .int .i64 ((rd_T41 t385 1).f0.f10), .bool ((rd_T41 t385 1).f0.f11)])
    generalize w72.setRow gb397 (#[.int .u64 ((rd_T41 t385 1).f0.f0), .int .i64 ((rd_T41 t385 1).f0.f1), .bool ((rd_T41 t385 1).f0.f2.f0), .string ((rd_T41 t385 1).f0.f2.f1), .int .u64 ((rd_T41 t385 1).f0.f2.f2), .int .i64 ((rd_T41 t385 1).f0.f2.f3), .int .i64 ((rd_T41 t385 1).f0.f3), .int .i64 ((rd_T41 t385 1).f0.f4), .bool ((rd_T41 t385 1).f0.f5), .bool ((rd_T41 t385 1).f0.f6), .bool ((rd_T41 t385 1).f0.f7), .bool ((rd_T41 t385 1).f0.f8), .int .i64 ((rd_T41 t385 1).f0.f9), .int .i64 ((rd_T41 t385 1).f0.f10), .bool ((rd_T41 t385 1).f0.f11)]) = w73 at R1_396 R1_397 R1_398 HB3 hHeld ⊢
    refine one_ (i := 17) (N := none) #[true, true, true, true, true, true, true, true, true, true, true, true, true, true, true, true, true, true] rfl rfl (one_of HT_.out (by kernel_rfl)) (by decide) (fun K hK => ?_)
    refine srow_ (by rfl) rfl 38 (.tmp 14) (.tmp 117) rfl gb398 (#[.int .u64 ((rd_T41 t385 2).f0.f0), .int .i64 ((rd_T41 t385 2).f0.f1), .bool ((rd_T41 t385 2).f0.f2.f0), .string ((rd_T41 t385 2).f0.f2.f1), .int .u64 ((rd_T41 t385 2).f0.f2.f2), .int .i64 ((rd_T41 t385 2).f0.f2.f3), .int .i64 ((rd_T41 t385 2).f0.f3), .int .i64 ((rd_T41 t385 2).f0.f4), .bool ((rd_T41 t385 2).f0.f5), .bool ((rd_T41 t385 2).f0.f6), .bool ((rd_T41 t385 2).f0.f7), .bool ((rd_T41 t385 2).f0.f8), .int .i64 ((rd_T41 t385 2).f0.f9), .int .i64 ((rd_T41 t385 2).f0.f10), .bool true]) rfl rfl 38 _ R1_398 (by kernel_rfl) rfl (by simp [Value.oneCell']) ?_
    refine hK.out _ _ (heldA_row NE398 hHeld) (fun hHeld => ?_)
    clear hK K
    have R2_396 := (setRow_other w73 gb398 gb396 (#[.int .u64 ((rd_T41 t385 2).f0.f0), .int .i64 ((rd_T41 t385 2).f0.f1), .bool ((rd_T41 t385 2).f0.f2.f0), .string ((rd_T41 t385 2).f0.f2.f1), .int .u64 ((rd_T41 t385 2).f0.f2.f2), .int .i64 ((rd_T41 t385 2).f0.f2.f3), .int .i64 ((rd_T41 t385 2).f0.f3), .int .i64 ((rd_T41 t385 2).f0.f4), .bool ((rd_T41 t385 2).f0.f5), .bool ((rd_T41 t385 2).f0.f6), .bool ((rd_T41 t385 2).f0.f7), .bool ((rd_T41 t385 2).f0.f8), .int .i64 ((rd_T41 t385 2).f0.f9), .int .i64 ((rd_T41 t385 2).f0.f10), .bool true]) NB396_398.out).trans R1_396
    have R2_397 := (setRow_other w73 gb398 gb397 (#[.int .u64 ((rd_T41 t385 2).f0.f0), .int .i64 ((rd_T41 t385 2).f0.f1), .bool ((rd_T41 t385 2).f0.f2.f0), .string ((rd_T41 t385 2).f0.f2.f1), .int .u64 ((rd_T41 t385 2).f0.f2.f2), .int .i64 ((rd_T41 t385 2).f0.f2.f3), .int .i64 ((rd_T41 t385 2).f0.f3), .int .i64 ((rd_T41 t385 2).f0.f4), .bool ((rd_T41 t385 2).f0.f5), .bool ((rd_T41 t385 2).f0.f6), .bool ((rd_T41 t385 2).f0.f7), .bool ((rd_T41 t385 2).f0.f8), .int .i64 ((rd_T41 t385 2).f0.f9), .int .i64 ((rd_T41 t385 2).f0.f10), .bool true]) NB397_398.out).trans R1_397
    have R2_398 := setRow_heap w73 gb398 _ (#[.int .u64 ((rd_T41 t385 2).f0.f0), .int .i64 ((rd_T41 t385 2).f0.f1), .bool ((rd_T41 t385 2).f0.f2.f0), .string ((rd_T41 t385 2).f0.f2.f1), .int .u64 ((rd_T41 t385 2).f0.f2.f2), .int .i64 ((rd_T41 t385 2).f0.f2.f3), .int .i64 ((rd_T41 t385 2).f0.f3), .int .i64 ((rd_T41 t385 2).f0.f4), .bool ((rd_T41 t385 2).f0.f5), .bool ((rd_T41 t385 2).f0.f6), .bool ((rd_T41 t385 2).f0.f7), .bool ((rd_T41 t385 2).f0.f8), .int .i64 ((rd_T41 t385 2).f0.f9), .int .i64 ((rd_T41 t385 2).f0.f10), .bool true]) _ _ R1_398
    have HB4 := below_srow HB3 GE398.out (#[.int .u64 ((rd_T41 t385 2).f0.f0), .int .i64 ((rd_T41 t385 2).f0.f1), .bool ((rd_T41 t385 2).f0.f2.f0), .string ((rd_T41 t385 2).f0.f2.f1), .int .u64 ((rd_T41 t385 2).f0.f2.f2), .int .i64 ((rd_T41 t385 2).f0.f2.f3), .int .i64 ((rd_T41 t385 2).f0.f3), .int .i64 ((rd_T41 t385 2).f0.f4), .bool ((rd_T41 t385 2).f0.f5), .bool ((rd_T41 t385 2).f0.f6), .bool ((rd_T41 t385 2).f0.f7), .bool ((rd_T41 t385 2).f0.f8), .int .i64 ((rd_T41 t385 2).f0.f9), .int .i64 ((rd_T41 t385 2).f0.f10), .bool true])
    generalize w73.setRow gb398 (#[.int .u64 ((rd_T41 t385 2).f0.f0), .int .i64 ((rd_T41 t385 2).f0.f1), .bool ((rd_T41 t385 2).f0.f2.f0), .string ((rd_T41 t385 2).f0.f2.f1), .int .u64 ((rd_T41 t385 2).f0.f2.f2), .int .i64 ((rd_T41 t385 2).f0.f2.f3), .int .i64 ((rd_T41 t385 2).f0.f3), .int .i64 ((rd_T41 t385 2).f0.f4), .bool ((rd_T41 t385 2).f0.f5), .bool ((rd_T41 t385 2).f0.f6), .bool ((rd_T41 t385 2).f0.f7), .bool ((rd_T41 t385 2).f0.f8), .int .i64 ((rd_T41 t385 2).f0.f9), .int .i64 ((rd_T41 t385 2).f0.f10), .bool true]) = w74 at R2_396 R2_397 R2_398 HB4 hHeld ⊢
    refine done_ (done_of HT_.out (by kernel_rfl)) ?_
    have hc396_0 := (blk_cell R2_396 0).trans rfl
    have hc396_1 := (blk_cell R2_396 1).trans rfl
    have hc396_2 := (blk_cell R2_396 2).trans rfl
    have hc396_3 := (blk_cell R2_396 3).trans rfl
    have hc396_4 := (blk_cell R2_396 4).trans rfl
    have hc396_5 := (blk_cell R2_396 5).trans rfl
    have hc396_6 := (blk_cell R2_396 6).trans rfl
    have hc396_7 := (blk_cell R2_396 7).trans rfl
    have hc396_8 := (blk_cell R2_396 8).trans rfl
    have hc396_9 := (blk_cell R2_396 9).trans rfl
    have hc396_10 := (blk_cell R2_396 10).trans rfl
    have hc396_11 := (blk_cell R2_396 11).trans rfl
    have hc396_12 := (blk_cell R2_396 12).trans rfl
    have hc396_13 := (blk_cell R2_396 13).trans rfl
    have hc396_14 := (blk_cell R2_396 14).trans rfl
    have hc397_0 := (blk_cell R2_397 0).trans rfl
    have hc397_1 := (blk_cell R2_397 1).trans rfl
    have hc397_2 := (blk_cell R2_397 2).trans rfl
    have hc397_3 := (blk_cell R2_397 3).trans rfl
    have hc397_4 := (blk_cell R2_397 4).trans rfl
    have hc397_5 := (blk_cell R2_397 5).trans rfl
    have hc397_6 := (blk_cell R2_397 6).trans rfl
    have hc397_7 := (blk_cell R2_397 7).trans rfl
    have hc397_8 := (blk_cell R2_397 8).trans rfl
    have hc397_9 := (blk_cell R2_397 9).trans rfl
    have hc397_10 := (blk_cell R2_397 10).trans rfl
    have hc397_11 := (blk_cell R2_397 11).trans rfl
    have hc397_12 := (blk_cell R2_397 12).trans rfl
    have hc397_13 := (blk_cell R2_397 13).trans rfl
    have hc397_14 := (blk_cell R2_397 14).trans rfl
    have hc398_0 := (blk_cell R2_398 0).trans rfl
    have hc398_1 := (blk_cell R2_398 1).trans rfl
    have hc398_2 := (blk_cell R2_398 2).trans rfl
    have hc398_3 := (blk_cell R2_398 3).trans rfl
    have hc398_4 := (blk_cell R2_398 4).trans rfl
    have hc398_5 := (blk_cell R2_398 5).trans rfl
    have hc398_6 := (blk_cell R2_398 6).trans rfl
    have hc398_7 := (blk_cell R2_398 7).trans rfl
    have hc398_8 := (blk_cell R2_398 8).trans rfl
    have hc398_9 := (blk_cell R2_398 9).trans rfl
    have hc398_10 := (blk_cell R2_398 10).trans rfl
    have hc398_11 := (blk_cell R2_398 11).trans rfl
    have hc398_12 := (blk_cell R2_398 12).trans rfl
    have hc398_13 := (blk_cell R2_398 13).trans rfl
    have hc398_14 := (blk_cell R2_398 14).trans rfl
    clear HB
    have HB := Aside0.mk HB4
    go_wp2
    go_ret
    exact ⟨by first | rfl | (simp [*]; done), HB.out⟩

/-- THE ONE PURE STATEMENT of laws_FnLineAnew: yours. -/
def laws_FnLineAnew.Pure : Prop := ∀ (a0 : Int) (a1 : Int) (a2 : Int) (a3 : Int), (Lit.int .i64 a0).wf = true → (Lit.int .i64 a1).wf = true → (Lit.int .i64 a2).wf = true → (Lit.int .u64 a3).wf = true → ∃ k, laws_FnLineAnew.f k a0 a1 a2 a3 = some true
theorem laws_FnLineAnew.walk (P : laws_FnLineAnew.Pure) (a0 : Int) (a1 : Int) (a2 : Int) (a3 : Int) (w : World) (w0 : (Lit.int .i64 a0).wf = true) (w1 : (Lit.int .i64 a1).wf = true) (w2 : (Lit.int .i64 a2).wf = true) (w3 : (Lit.int .u64 a3).wf = true) (hG : Glob w) :
    Calls Tryd.prog 3 #[.int .i64 a0, .int .i64 a1, .int .i64 a2, .int .u64 a3] w fun e w' => e = .returned (.bool true) ∧ Below w.heap.size w w' := by
  obtain ⟨k, h⟩ := P a0 a1 a2 a3 w0 w1 w2 w3
  refine (laws_FnLineAnew.calls k a0 a1 a2 a3 true w h hG rfl).mono ?_
  rintro e w' ⟨rfl, hd⟩
  exact ⟨rfl, hd⟩
end Go.Proofs.YtdepfipebogdcaaDoor.PPl
