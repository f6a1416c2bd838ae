/- Of machines that have several operations in an instruction an operation that advances, and the one that advances as the special opcode 255, go on both with the address and with the number of the operation. No conditions beyond the statement's own. -/
import Derived.Test.YtnooghnbohjmlaaDoorPLlawsFnLineOperations
import Derived.Test.YtnooghnbohjmlaaDoorMa
import Derived.Test.YtnooghnbohjmlaaDoorMd
namespace Go.Proofs.YtnooghnbohjmlaaDoor.Pure
open Go.RowKit Go.Proofs.YtnooghnbohjmlaaDoor.PPl Go.Proofs.YtnooghnbohjmlaaDoorW.PrintWords Go.Proofs.YtnooghnbohjmlaaDoorW.PrintLast Go.Proofs.YtnooghnbohjmlaaDoorW.PrintMore Go.Proofs.YtnooghnbohjmlaaDoor.Leb Go.Proofs.YtnooghnbohjmlaaDoor.Line

/-- The bounds of a header's numbers. -/
theorem right_f (mi mo lb lr ob : Int) : laws_numbers_right.f mi mo lb lr ob = some (decide ((0 ≤ mi ∧ mi < 256) ∧ (1 ≤ mo ∧ mo < 256) ∧ (-128 ≤ lb ∧ lb < 128) ∧ (1 ≤ lr ∧ lr < 256) ∧ (1 ≤ ob ∧ ob < 256))) := rfl
theorem FnLineOperations : laws_FnLineOperations.Pure := by
  intro a0 a1 a2 a3 a4 a5 w0 w1 w2 w3 w4 w5
  have b0 := wf_i64 w0
  have b1 := wf_i64 w1
  have b2 := wf_i64 w2
  have b3 := wf_i64 w3
  have b4 := wf_i64 w4
  have b5 := wf_u64 w5
  have hu64 : ∀ x : Int, 0 ≤ x → x < 18446744073709551616 → IntKind.u64.wrap x = x := fun x h1 h2 => by rw [IntKind.wrap_u64]; omega
  have h64 : ∀ x : Int, -9223372036854775808 ≤ x → x < 9223372036854775808 → wrap64 x = x := fun x h1 h2 => by unfold wrap64; omega
  by_cases hc : ¬ (0 ≤ a1 ∧ a1 < 256) ∨ ¬ (1 ≤ a0 ∧ a0 < 256) ∨ ¬ (1 ≤ a2 ∧ a2 < 256) ∨ ¬ (9 ≤ a3 ∧ a3 < 256) ∨ a4 < 0 ∨ a4 > 2147483648 ∨ a5 > 4611686018427387904
  · refine ⟨1, ?_⟩
    have done : laws_FnLineOperations.j0 1 a0 a1 a2 a3 a4 a5 true a1 a0 0 a2 a3 = some true := by simp [laws_FnLineOperations.j0]
    unfold laws_FnLineOperations.f
    rw [right_f]
    simp only [Option.bind_some]
    split
    · rename_i hr
      have hr := of_decide_eq_true hr
      split
      · exact done
      split
      · exact done
      split
      · exact done
      rw [decide_eq_true (by omega)]
      exact done
    · exact done
  · obtain ⟨n, rfl⟩ : ∃ n : Nat, a4 = (n : Int) := ⟨a4.toNat, by omega⟩
    have d0 : 0 ≤ (255 - a3) / a2 ∧ (255 - a3) / a2 ≤ 255 := ⟨Int.ediv_nonneg (by omega) (by omega), Int.le_trans (Int.ediv_le_self _ (by omega)) (by omega)⟩
    have dq : 0 ≤ (n : Int) / a0 ∧ (n : Int) / a0 ≤ n := ⟨Int.ediv_nonneg (by omega) (by omega), Int.ediv_le_self _ (by omega)⟩
    have dr : 0 ≤ (n : Int) % a0 ∧ (n : Int) % a0 < a0 := ⟨Int.emod_nonneg _ (by omega), Int.emod_lt_of_pos _ (by omega)⟩
    have ds : 0 ≤ ((n : Int) % a0 + (255 - a3) / a2) / a0 ∧ ((n : Int) % a0 + (255 - a3) / a2) / a0 ≤ 511 := ⟨Int.ediv_nonneg (by omega) (by omega), Int.le_trans (Int.ediv_le_self _ (by omega)) (by omega)⟩
    have hm : 0 ≤ a1 * ((n : Int) / a0) ∧ a1 * ((n : Int) / a0) ≤ 255 * 2147483648 := ⟨Int.mul_nonneg (by omega) dq.1, Int.mul_le_mul (by omega) (by omega) dq.1 (by decide)⟩
    have hm2 : 0 ≤ a1 * (((n : Int) % a0 + (255 - a3) / a2) / a0) ∧ a1 * (((n : Int) % a0 + (255 - a3) / a2) / a0) ≤ 255 * 511 := ⟨Int.mul_nonneg (by omega) ds.1, Int.mul_le_mul (by omega) (by omega) ds.1 (by decide)⟩
    have em : wrap64 (Int.tdiv (wrap64 (255 - a3)) a2) = (255 - a3) / a2 := by rw [h64 (255 - a3) (by omega) (by omega), Int.tdiv_eq_ediv_of_nonneg (by omega), h64 _ (by omega) (by omega)]
    have et : Int.tmod (wrap64 ((n : Int) + (wrap64 (Int.tdiv (wrap64 (255 - a3)) a2)))) a0 = ((n : Int) + (255 - a3) / a2) % a0 := by rw [em, h64 ((n : Int) + (255 - a3) / a2) (by omega) (by omega), Int.tmod_eq_emod_of_nonneg (by omega)]
    have ea : IntKind.u64.wrap ((IntKind.u64.wrap (a5 + (IntKind.u64.wrap (wrap64 (a1 * (wrap64 (Int.tdiv (n : Int) a0))))))) + (IntKind.u64.wrap (wrap64 (a1 * (wrap64 (Int.tdiv (wrap64 ((Int.tmod (n : Int) a0) + (wrap64 (Int.tdiv (wrap64 (255 - a3)) a2)))) a0)))))) = a5 + a1 * ((n : Int) / a0) + a1 * (((n : Int) % a0 + (255 - a3) / a2) / a0) := by
      rw [em, Int.tdiv_eq_ediv_of_nonneg (by omega : (0 : Int) ≤ (n : Int)), Int.tmod_eq_emod_of_nonneg (by omega : (0 : Int) ≤ (n : Int)), h64 ((n : Int) / a0) (by omega) (by omega), h64 ((n : Int) % a0 + (255 - a3) / a2) (by omega) (by omega), Int.tdiv_eq_ediv_of_nonneg (by omega), h64 (((n : Int) % a0 + (255 - a3) / a2) / a0) (by omega) (by omega), h64 (a1 * ((n : Int) / a0)) (by omega) (by omega), h64 (a1 * (((n : Int) % a0 + (255 - a3) / a2) / a0)) (by omega) (by omega), hu64 (a1 * ((n : Int) / a0)) (by omega) (by omega), hu64 (a1 * (((n : Int) % a0 + (255 - a3) / a2) / a0)) (by omega) (by omega), hu64 (a5 + a1 * ((n : Int) / a0)) (by omega) (by omega), hu64 _ (by omega) (by omega)]
    obtain ⟨P, hP⟩ : ∃ P, P = 2 :: (ubp n 0 ++ [8, 1]) := ⟨_, rfl⟩
    obtain ⟨r1, r2, hT, e1, e2, e3, e4⟩ := say_operations (k := constOf a1 a0 false 0 a2 a3 (List.replicate (a3.toNat - 13) 0) [47, 97] (progOf a5 P)) (F := flA) (ad := a5) (n := n) (by show 9 ≤ a3; omega) (by show a3 < 256; omega) (by show 1 ≤ a2; omega) ⟨by show (0 : Int) ≤ a1; omega, by show a1 < 256; omega⟩ ⟨by show 1 ≤ a0; omega, by show a0 < 256; omega⟩ rfl rfl ⟨by omega, by omega⟩ (by omega)
    have eP : progOf a5 P = 0 :: 9 :: 2 :: (le8 a5 ++ 2 :: (ubp n 0 ++ 8 :: 1 :: [0, 1, 1])) := by rw [hP]; simp [progOf]
    have hul : (ubp n 0).length ≤ 10 := by rw [ubp_length]; exact ub_length_10 n (by omega)
    have hR : Ev (fun k => laws_rowsOf.f k a1 a0 0 a2 a3 a5 P 2) ([rowS r1, rowS r2], true) := rowsOf_ev (rows := [r1, r2]) (by omega) (by omega) (by omega) (by omega) (by omega)
      (by rw [hP]; exact cons_bytes (by omega) (app_bytes (ubp_bytes _ _) (cons_bytes (by omega) (cons_bytes (by omega) nil_bytes))))
      (by rw [hP]; simp; omega) (by rw [← eP] at hT; exact hT) (by simp) (by
        intro i hi
        match i, hi with
        | 0, _ => exact e1
        | 1, _ => exact e2)
    obtain ⟨K1, hU⟩ := spec_Unsigned_f n 0 (by omega) (by omega)
    have hU : ∀ k, K1 ≤ k → spec_Unsigned.f k (n : Int) 0 = some (ubp n 0) := hU
    obtain ⟨K3, hR⟩ := hR
    have hR : ∀ k, K3 ≤ k → laws_rowsOf.f k a1 a0 0 a2 a3 a5 P 2 = some ([rowS r1, rowS r2], true) := hR
    refine ⟨K1 + K3 + 1, ?_⟩
    unfold laws_FnLineOperations.f
    rw [right_f, decide_eq_true (by omega)]
    simp only [Option.bind_some]
    rw [if_pos trivial, if_neg (by omega), if_neg (by omega), if_neg (by omega), decide_eq_false (by omega)]
    simp only [laws_FnLineOperations.j0]
    rw [if_neg (by decide), if_neg (by omega), if_neg (by omega), hu64 (n : Int) (by omega) (by omega), et, ea]
    simp only [Option.bind_some]
    rw [hU _ (by omega)]
    simp only [Option.bind_some]
    rw [if_pos (by simp; omega), if_pos (by simp; omega), show [2] ++ ubp n 0 ++ [8, 1] = P by rw [hP]; simp, hR _ (by omega)]
    simp only [Option.bind_some]
    have e3' : r1.ix = ((n : Int) + (255 - a3) / a2) % a0 := by
      have h1 : r1.ix = ((n : Int) % a0 + (255 - a3) / a2) % a0 := e3
      rw [h1, Int.emod_add_emod]
    rw [if_pos trivial, if_pos (by simp), if_pos (show (rd_T38 [rowS r1, rowS r2] 0).f1 = ((n : Int) + (255 - a3) / a2) % a0 from e3')]
    show some (r1.ad == _) = some true
    rw [show r1.ad = a5 + a1 * ((n : Int) / a0) + a1 * (((n : Int) % a0 + (255 - a3) / a2) / a0) from e4, beq_self_eq_true]

end Go.Proofs.YtnooghnbohjmlaaDoor.Pure
