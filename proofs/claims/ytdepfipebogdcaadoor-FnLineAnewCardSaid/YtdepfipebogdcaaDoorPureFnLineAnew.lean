/- Behind the end of a sequence all columns are what they were at the beginning. No conditions beyond the statement's own. -/
import Derived.Test.YtdepfipebogdcaaDoorPLlawsFnLineAnew
import Derived.Test.YtdepfipebogdcaaDoorUa
import Derived.Test.YtdepfipebogdcaaDoorUd
namespace Go.Proofs.YtdepfipebogdcaaDoor.Pure
open Go.RowKit Go.Proofs.YtdepfipebogdcaaDoor.PPl Go.Proofs.YtdepfipebogdcaaDoorW.PrintWords Go.Proofs.YtdepfipebogdcaaDoorW.PrintLast Go.Proofs.YtdepfipebogdcaaDoorW.PrintMore Go.Proofs.YtdepfipebogdcaaDoor.Leb Go.Proofs.YtdepfipebogdcaaDoor.Line

theorem plain_ev {ad : Int} {prog : List Int} (hl : prog.length < 1000000) : Ev (fun k => laws_plain.f k 1 1 0 1 13 ad prog) (tableOf (headOf 1 1 false 0 1 13 [] [47, 97]) (progOf ad prog)) := by
  have h := named_f (mi := 1) (mo := 1) (lb := 0) (lr := 1) (ob := 13) (ad := ad) (prog := prog) (nm := ⟨#[47, 97]⟩) (by omega) (by omega) (by omega) (by omega) (by omega) (by decide)
  have e : bytesOf ⟨#[47, 97]⟩ = [47, 97] := by rfl
  rw [e] at h
  exact Ev.bind h (Ev.now _)
theorem steps_ev {ad : Int} {prog : List Int} {rows : List Line.Row} (hp : Bytes prog) (hl : prog.length < 1000000)
    (hT : Line.Told (constOf 1 1 false 0 1 13 [] [47, 97] (progOf ad prog)) (stP flA (row0 flA)) (progOf ad prog) rows) (hn : rows.length < 100) :
    Ev (fun k => impl_LineSteps.f k (tableOf (headOf 1 1 false 0 1 13 [] [47, 97]) (progOf ad prog)) ([] : List Int) 0 8 false (⟨#[]⟩ : ByteArray) (List.replicate (rows.length + 1) z67)) (rows.map (fun r => ansS (some r)) ++ [ansS none], 0) := by
  have hP : Bytes (progOf ad prog) := by
    unfold progOf
    exact cons_bytes (by omega) (cons_bytes (by omega) (cons_bytes (by omega) (app_bytes (le8_bytes _) (app_bytes hp (by intro b hb; simp at hb; omega)))))
  have hPl : (progOf ad prog).length = 14 + prog.length := by simp [progOf, le8, le4]; omega
  have hst := told_steps rows _ _ hT (10 + (headOf 1 1 false 0 1 13 [] [47, 97]).length) (at_prog ..)
  have hh := hdr_of (mi := 1) (mo := 1) (ds := false) (lb := 0) (lr := 1) (ob := 13) (more := []) (nm := [47, 97]) (prog := progOf ad prog) (by omega) (by omega) (by omega) (by omega) (by omega) (by simp) (by intro b hb; cases hb) rfl (by intro x hx; simp at hx; omega) (by intro x hx; simp at hx; omega) hP (by simp; omega)
  have hlen : (tableOf (headOf 1 1 false 0 1 13 [] [47, 97]) (progOf ad prog)).length < 140737488355328 := by
    rw [tableOf_length, headOf_length, lensOf_length _ _ (by simp), hPl]
    simp
    omega
  refine Ev.congr (f := fun k => (stepsOf (constOf 1 1 false 0 1 13 [] [47, 97] (progOf ad prog)) k ((stP flA (row0 flA)).on (10 + (headOf 1 1 false 0 1 13 [] [47, 97]).length)) (List.replicate (rows.length + 1) z67)).bind fun l => some (l, 0)) (fun k => ?_) (Ev.bind hst (Ev.now _))
  unfold impl_LineSteps.f
  rw [if_pos ⟨by omega, hlen, by simp, by decide, by simp; omega⟩]
  have e0 : (0 : Int).toNat = 0 := rfl
  have eb : (⟨#[]⟩ : ByteArray) = ByteArray.empty := rfl
  rw [e0, eb, hh]
  simp only [Option.bind_some]
  rw [reset_first]
  rfl
theorem FnLineAnew : laws_FnLineAnew.Pure := by
  intro a0 a1 a2 a3 w0 w1 w2 w3
  have b0 := wf_i64 w0
  have b1 := wf_i64 w1
  have b2 := wf_i64 w2
  have b3 := wf_u64 w3
  have hu64 : ∀ x : Int, 0 ≤ x → x < 18446744073709551616 → IntKind.u64.wrap x = x := fun x h1 h2 => by rw [IntKind.wrap_u64]; omega
  by_cases hc : a0 < 0 ∨ a0 > 2147483648 ∨ a1 < 0 ∨ a1 > 2147483648 ∨ a2 < 0 ∨ a2 > 2147483648 ∨ a3 > 4611686018427387904
  · refine ⟨1, ?_⟩
    have done : laws_FnLineAnew.j0 1 a0 a1 a2 a3 true = some true := by simp [laws_FnLineAnew.j0]
    unfold laws_FnLineAnew.f
    split
    · exact done
    split
    · exact done
    split
    · exact done
    split
    · exact done
    split
    · exact done
    split
    · exact done
    rw [decide_eq_true (by omega)]
    exact done
  · obtain ⟨n, rfl⟩ : ∃ n : Nat, a0 = (n : Int) := ⟨a0.toNat, by omega⟩
    obtain ⟨co, rfl⟩ : ∃ n : Nat, a1 = (n : Int) := ⟨a1.toNat, by omega⟩
    obtain ⟨isa, rfl⟩ : ∃ n : Nat, a2 = (n : Int) := ⟨a2.toNat, by omega⟩
    obtain ⟨P, hP⟩ : ∃ P, P = 3 :: (sbp (n : Int) 0 ++ 5 :: (ubp co 0 ++ 12 :: (ubp isa 0 ++ [6, 7, 10, 11, 0, 1, 1, 1]))) := ⟨_, rfl⟩
    obtain ⟨r1, r3, hT, e1, e2, e3, e4⟩ := say_anew (k := constOf 1 1 false 0 1 13 [] [47, 97] (progOf a3 P)) (F := flA) (n := n) (co := co) (isa := isa) (ad := a3) rfl rfl rfl rfl (by omega) (by omega) (by omega) (by omega)
    have eP : progOf a3 P = 0 :: 9 :: 2 :: (le8 a3 ++ 3 :: (sbp (n : Int) 0 ++ 5 :: (ubp co 0 ++ 12 :: (ubp isa 0 ++ 6 :: 7 :: 10 :: 11 :: 0 :: 1 :: 1 :: 1 :: [0, 1, 1])))) := by rw [hP]; simp [progOf]
    have l1 : (ubp co 0).length ≤ 10 := by rw [ubp_length]; exact ub_length_10 co (by omega)
    have l2 : (ubp isa 0).length ≤ 10 := by rw [ubp_length]; exact ub_length_10 isa (by omega)
    have l3 : (sbp (n : Int) 0).length ≤ 10 := by rw [sbp_length]; exact sb_length_10 (n : Int) (by omega) (by omega)
    have hB : Bytes P := by rw [hP]; exact cons_bytes (by omega) (app_bytes (sbp_bytes _ _) (cons_bytes (by omega) (app_bytes (ubp_bytes _ _) (cons_bytes (by omega) (app_bytes (ubp_bytes _ _) (by intro b hb; simp at hb; omega))))))
    obtain ⟨K1, hU⟩ := spec_Unsigned_f co 0 (by omega) (by omega)
    have hU : ∀ k, K1 ≤ k → spec_Unsigned.f k (co : Int) 0 = some (ubp co 0) := hU
    obtain ⟨K2, hV⟩ := spec_Unsigned_f isa 0 (by omega) (by omega)
    have hV : ∀ k, K2 ≤ k → spec_Unsigned.f k (isa : Int) 0 = some (ubp isa 0) := hV
    obtain ⟨K4, hS⟩ := spec_Signed_f (n : Int) 0 (by omega) (by omega)
    have hS : ∀ k, K4 ≤ k → spec_Signed.f k (n : Int) 0 = some (sbp (n : Int) 0) := hS
    obtain ⟨K5, hQ⟩ := plain_ev (ad := a3) (prog := P) (by rw [hP]; simp; omega)
    have hQ : ∀ k, K5 ≤ k → laws_plain.f k 1 1 0 1 13 a3 P = some (tableOf (headOf 1 1 false 0 1 13 [] [47, 97]) (progOf a3 P)) := hQ
    rw [← eP] at hT
    obtain ⟨K6, hR⟩ := steps_ev hB (by rw [hP]; simp; omega) hT (by simp)
    have hR : ∀ k, K6 ≤ k → impl_LineSteps.f k (tableOf (headOf 1 1 false 0 1 13 [] [47, 97]) (progOf a3 P)) ([] : List Int) 0 8 false (⟨#[]⟩ : ByteArray) (List.replicate 4 z67) = some ([ansS (some r1), ansS (some (row0 flA)), ansS (some r3), ansS none], 0) := hR
    have hN : laws_nexts.f 4 = some (List.replicate 4 z67) := nexts_f 4 (by omega)
    refine ⟨K1 + K2 + K4 + K5 + K6 + 1, ?_⟩
    unfold laws_FnLineAnew.f
    rw [if_neg (by omega), if_neg (by omega), if_neg (by omega), if_neg (by omega), if_neg (by omega), if_neg (by omega), decide_eq_false (by omega)]
    simp only [laws_FnLineAnew.j0]
    rw [if_neg (by decide), hu64 (co : Int) (by omega) (by omega), hu64 (isa : Int) (by omega) (by omega)]
    simp only [Option.bind_some]
    rw [hS _ (by omega)]
    simp only [Option.bind_some]
    rw [if_pos (by simp; omega), if_pos (by simp; omega), hU _ (by omega)]
    simp only [Option.bind_some]
    rw [if_pos (by simp; omega), if_pos (by simp; omega), hV _ (by omega)]
    simp only [Option.bind_some]
    rw [if_pos (by simp; omega), if_pos (by simp; omega)]
    simp only [laws_usual.f, Option.bind_some]
    rw [show [3] ++ sbp (n : Int) 0 ++ [5] ++ ubp co 0 ++ [12] ++ ubp isa 0 ++ [6, 7, 10, 11, 0, 1, 1, 1] = P by rw [hP]; simp, hQ _ (by omega)]
    simp only [Option.bind_some]
    rw [hN]
    simp only [Option.bind_some]
    rw [hR _ (by omega)]
    simp only [Option.bind_some]
    have z (i : Nat) (r : Line.Row) (h : [ansS (some r1), ansS (some (row0 flA)), ansS (some r3), ansS none][i]? = some (ansS (some r))) : (rd_T41 [ansS (some r1), ansS (some (row0 flA)), ansS (some r3), ansS none] (i : Int)) = ansS (some r) := by
      unfold rd_T41
      rw [Int.toNat_natCast, List.getD_eq_getElem?_getD, h]
      rfl
    have z0 : (rd_T41 [ansS (some r1), ansS (some (row0 flA)), ansS (some r3), ansS none] 0) = ansS (some r1) := z 0 r1 rfl
    have z1 : (rd_T41 [ansS (some r1), ansS (some (row0 flA)), ansS (some r3), ansS none] 1) = ansS (some (row0 flA)) := z 1 _ rfl
    have z2 : (rd_T41 [ansS (some r1), ansS (some (row0 flA)), ansS (some r3), ansS none] 2) = ansS (some r3) := z 2 r3 rfl
    have z3 : (rd_T41 [ansS (some r1), ansS (some (row0 flA)), ansS (some r3), ansS none] 3) = ansS none := rfl
    rw [z0, z1, z2, z3]
    rw [if_pos trivial, if_pos (by simp), if_pos (by simp), if_pos (show (ansS (some r1)).f2 = 0 from rfl), if_pos (by simp), if_pos (show (ansS (some (row0 flA))).f2 = 0 from rfl), if_pos (by simp), if_pos (show (ansS (some r3)).f2 = 0 from rfl), if_pos (by simp), if_pos (show (ansS none).f2 = 1 by simp [ansS, codeOr]),
      if_pos (show (ansS (some r1)).f0.f11 = true from e1), if_pos (show (ansS (some r1)).f0.f0 = a3 from e2), if_pos (by decide +kernel), if_pos (show (ansS (some r3)).f0.f11 = true from e3)]
    show some (r3.ad == (0 : Int)) = some true
    rw [e4, beq_self_eq_true]

end Go.Proofs.YtdepfipebogdcaaDoor.Pure
