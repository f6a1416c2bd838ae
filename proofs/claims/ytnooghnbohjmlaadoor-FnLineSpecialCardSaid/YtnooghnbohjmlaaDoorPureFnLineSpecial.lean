/- A special opcode advances the address and the line by the two parts of its number. No conditions beyond the statement's own. -/
import Derived.Test.YtnooghnbohjmlaaDoorPLlawsFnLineSpecial
import Derived.Test.YtnooghnbohjmlaaDoorMa
import Derived.Test.YtnooghnbohjmlaaDoorMd
namespace Go.Proofs.YtnooghnbohjmlaaDoor.Pure
open Go.RowKit Go.Proofs.YtnooghnbohjmlaaDoor.PPl Go.Proofs.YtnooghnbohjmlaaDoorW.PrintWords Go.Proofs.YtnooghnbohjmlaaDoorW.PrintLast Go.Proofs.YtnooghnbohjmlaaDoorW.PrintMore Go.Proofs.YtnooghnbohjmlaaDoor.Leb Go.Proofs.YtnooghnbohjmlaaDoor.Line

/-- The bounds of a header's numbers. -/
theorem right_f (mi mo lb lr ob : Int) : laws_numbers_right.f mi mo lb lr ob = some (decide ((0 ≤ mi ∧ mi < 256) ∧ (1 ≤ mo ∧ mo < 256) ∧ (-128 ≤ lb ∧ lb < 128) ∧ (1 ≤ lr ∧ lr < 256) ∧ (1 ≤ ob ∧ ob < 256))) := by
  unfold laws_numbers_right.f
  repeat' split
  all_goals first | (congr 1; rw [decide_eq_decide]; omega) | (congr 1; symm; rw [decide_eq_false_iff_not]; omega)

theorem FnLineSpecial : laws_FnLineSpecial.Pure := by
  intro a0 a1 a2 a3 a4 a5 w0 w1 w2 w3 w4 w5
  have b0 := wf_i64 w0
  have b1 := wf_i64 w1
  have b2 := wf_i64 w2
  have b3 := wf_i64 w3
  have b4 := wf_i64 w4
  have b5 := wf_u64 w5
  have hu64 : ∀ x : Int, 0 ≤ x → x < 18446744073709551616 → IntKind.u64.wrap x = x := fun x h1 h2 => by rw [IntKind.wrap_u64]; omega
  have h64 : ∀ x : Int, -9223372036854775808 ≤ x → x < 9223372036854775808 → wrap64 x = x := fun x h1 h2 => by unfold wrap64; omega
  by_cases hc : ¬ (0 ≤ a0 ∧ a0 < 256) ∨ ¬ (-128 ≤ a1 ∧ a1 < 128) ∨ ¬ (1 ≤ a2 ∧ a2 < 256) ∨ ¬ (1 ≤ a3 ∧ a3 < 256) ∨ a4 < a3 ∨ a4 > 255 ∨ a5 > 4611686018427387904
  · refine ⟨1, ?_⟩
    have done : laws_FnLineSpecial.j0 1 a0 a1 a2 a3 a4 a5 true a0 1 a1 a2 a3 = some true := by simp [laws_FnLineSpecial.j0]
    unfold laws_FnLineSpecial.f
    rw [right_f]
    simp only [Option.bind_some]
    split
    · rename_i hr
      have hr := of_decide_eq_true hr
      split
      · exact done
      split
      · exact done
      rw [decide_eq_true (by omega)]
      exact done
    · exact done
  · have d0 : 0 ≤ (a4 - a3) / a2 ∧ (a4 - a3) / a2 ≤ 255 := ⟨Int.ediv_nonneg (by omega) (by omega), Int.le_trans (Int.ediv_le_self _ (by omega)) (by omega)⟩
    have d1 : 0 ≤ (a4 - a3) % a2 ∧ (a4 - a3) % a2 < a2 := ⟨Int.emod_nonneg _ (by omega), Int.emod_lt_of_pos _ (by omega)⟩
    have hm : 0 ≤ a0 * ((a4 - a3) / a2) ∧ a0 * ((a4 - a3) / a2) ≤ 255 * 255 := ⟨Int.mul_nonneg (by omega) d0.1, Int.mul_le_mul (by omega) (by omega) d0.1 (by decide)⟩
    have ed : wrap64 (Int.tdiv (wrap64 (a4 - a3)) a2) = (a4 - a3) / a2 := by rw [h64 (a4 - a3) (by omega) (by omega), Int.tdiv_eq_ediv_of_nonneg (by omega), h64 _ (by omega) (by omega)]
    have em : wrap64 ((wrap64 (1 + a1)) + (Int.tmod (wrap64 (a4 - a3)) a2)) = 1 + (a1 + (a4 - a3) % a2) := by rw [h64 (a4 - a3) (by omega) (by omega), Int.tmod_eq_emod_of_nonneg (by omega), h64 (1 + a1) (by omega) (by omega), h64 _ (by omega) (by omega)]; omega
    have ea : IntKind.u64.wrap (a5 + IntKind.u64.wrap (wrap64 (a0 * (wrap64 (Int.tdiv (wrap64 (a4 - a3)) a2))))) = a5 + a0 * ((a4 - a3) / a2) := by rw [ed, h64 (a0 * ((a4 - a3) / a2)) (by omega) (by omega), hu64 (a0 * ((a4 - a3) / a2)) (by omega) (by omega), hu64 _ (by omega) (by omega)]
    by_cases hl : 1 + (a1 + (a4 - a3) % a2) < 0
    · refine ⟨1, ?_⟩
      unfold laws_FnLineSpecial.f
      rw [right_f, decide_eq_true (by omega)]
      simp only [Option.bind_some]
      rw [if_pos trivial, if_neg (by omega), if_neg (by omega), decide_eq_false (by omega)]
      simp only [laws_FnLineSpecial.j0]
      rw [if_neg (by decide), if_neg (by omega), em, if_pos hl]
    obtain ⟨P, hP⟩ : ∃ P, P = [a4] := ⟨_, rfl⟩
    obtain ⟨r1, r2, hT, e1, e2, e3, e4, e5⟩ := say_special (k := constOf a0 1 false a1 a2 a3 (List.replicate (a3.toNat - 13) 0) [47, 97] (progOf a5 P)) (F := flA) (ad := a5) (op := a4) (by show 1 ≤ a3; omega) (by show a3 ≤ a4; omega) (by omega) (by show 1 ≤ a2; omega) ⟨by show (0 : Int) ≤ a0; omega, by show a0 < 256; omega⟩ rfl rfl rfl ⟨by omega, by omega⟩
    have eP : progOf a5 P = 0 :: 9 :: 2 :: (le8 a5 ++ a4 :: [0, 1, 1]) := by rw [hP]; simp [progOf]
    have hR : Ev (fun k => laws_rowsOf.f k a0 1 a1 a2 a3 a5 P 2) ([rowS r1, rowS r2], true) := rowsOf_ev (rows := [r1, r2]) (by omega) (by omega) (by omega) (by omega) (by omega)
      (by rw [hP]; exact cons_bytes (by omega) nil_bytes)
      (by rw [hP]; simp) (by rw [← eP] at hT; exact hT) (by simp) (by
        intro i hi
        match i, hi with
        | 0, _ => exact e1
        | 1, _ => exact e2)
    obtain ⟨K3, hR⟩ := hR
    have hR : ∀ k, K3 ≤ k → laws_rowsOf.f k a0 1 a1 a2 a3 a5 P 2 = some ([rowS r1, rowS r2], true) := hR
    refine ⟨K3 + 1, ?_⟩
    unfold laws_FnLineSpecial.f
    rw [right_f, decide_eq_true (by omega)]
    simp only [Option.bind_some]
    rw [if_pos trivial, if_neg (by omega), if_neg (by omega), decide_eq_false (by omega)]
    simp only [laws_FnLineSpecial.j0]
    have e256 : a4 % 256 = a4 := by omega
    rw [if_neg (by decide), if_neg (by omega), em, ea, if_neg hl, e256, show [a4] = P from hP.symm, hR _ (by omega)]
    simp only [Option.bind_some]
    rw [if_pos trivial, if_pos (by simp), if_pos (show (rd_T38 [rowS r1, rowS r2] 0).f0 = a5 + a0 * ((a4 - a3) / a2) from e3), if_pos (show (rd_T38 [rowS r1, rowS r2] 0).f3 = 1 + (a1 + (a4 - a3) % a2) from e4), if_pos (by simp)]
    show some (r2.ad == _) = some true
    rw [show r2.ad = a5 + a0 * ((a4 - a3) / a2) from e5, beq_self_eq_true]

end Go.Proofs.YtnooghnbohjmlaaDoor.Pure
