/- A fixed advance is counted in bytes, not in instructions. No conditions beyond the statement's own. -/
import Derived.Test.YtnooghnbohjmlaaDoorPLlawsFnLineFixed
import Derived.Test.YtnooghnbohjmlaaDoorMa
import Derived.Test.YtnooghnbohjmlaaDoorMd
namespace Go.Proofs.YtnooghnbohjmlaaDoor.Pure
open Go.RowKit Go.Proofs.YtnooghnbohjmlaaDoor.PPl Go.Proofs.YtnooghnbohjmlaaDoorW.PrintWords Go.Proofs.YtnooghnbohjmlaaDoorW.PrintLast Go.Proofs.YtnooghnbohjmlaaDoorW.PrintMore Go.Proofs.YtnooghnbohjmlaaDoor.Leb Go.Proofs.YtnooghnbohjmlaaDoor.Line

/-- The bounds of a header's numbers. -/
theorem right_f (mi mo lb lr ob : Int) : laws_numbers_right.f mi mo lb lr ob = some (decide ((0 ≤ mi ∧ mi < 256) ∧ (1 ≤ mo ∧ mo < 256) ∧ (-128 ≤ lb ∧ lb < 128) ∧ (1 ≤ lr ∧ lr < 256) ∧ (1 ≤ ob ∧ ob < 256))) := by
  unfold laws_numbers_right.f
  repeat' split
  all_goals first | (congr 1; rw [decide_eq_decide]; omega) | (congr 1; symm; rw [decide_eq_false_iff_not]; omega)

theorem FnLineFixed : laws_FnLineFixed.Pure := by
  intro a0 a1 a2 a3 w0 w1 w2 w3
  have b0 := wf_i64 w0
  have b1 := wf_i64 w1
  have b2 := wf_i64 w2
  have b3 := wf_u64 w3
  have hu64 : ∀ x : Int, 0 ≤ x → x < 18446744073709551616 → IntKind.u64.wrap x = x := fun x h1 h2 => by rw [IntKind.wrap_u64]; omega
  have h64 : ∀ x : Int, -9223372036854775808 ≤ x → x < 9223372036854775808 → wrap64 x = x := fun x h1 h2 => by unfold wrap64; omega
  by_cases hc : ¬ (0 ≤ a0 ∧ a0 < 256) ∨ a1 < 0 ∨ a1 > 2147483648 ∨ a2 < 0 ∨ a2 > 65535 ∨ a3 > 4611686018427387904
  · refine ⟨1, ?_⟩
    have done : laws_FnLineFixed.j0 1 a0 a1 a2 a3 true a0 1 0 1 13 = some true := by simp [laws_FnLineFixed.j0]
    unfold laws_FnLineFixed.f
    rw [right_f]
    simp only [Option.bind_some]
    split
    · rename_i hr
      have hr := of_decide_eq_true hr
      split
      · exact done
      split
      · exact done
      split
      · exact done
      split
      · exact done
      rw [decide_eq_true (by omega)]
      exact done
    · exact done
  · obtain ⟨n, rfl⟩ : ∃ n : Nat, a1 = (n : Int) := ⟨a1.toNat, by omega⟩
    obtain ⟨P, hP⟩ : ∃ P, P = 2 :: (ubp n 0 ++ 9 :: a2 % 256 :: a2 / 256 % 256 :: [1]) := ⟨_, rfl⟩
    obtain ⟨r1, r2, hT, e1, e2, e3, e4⟩ := say_fixed (k := constOf a0 1 false 0 1 13 [] [47, 97] (progOf a3 P)) (F := flA) (ad := a3) (f := a2) (n := n) rfl ⟨by show (0 : Int) ≤ a0; omega, by show a0 < 256; omega⟩ rfl rfl rfl ⟨by omega, by omega⟩ (by omega) ⟨by omega, by omega⟩
    have eP : progOf a3 P = 0 :: 9 :: 2 :: (le8 a3 ++ 2 :: (ubp n 0 ++ 9 :: a2 % 256 :: a2 / 256 % 256 :: 1 :: [0, 1, 1])) := by rw [hP]; simp [progOf]
    have hul : (ubp n 0).length ≤ 10 := by rw [ubp_length]; exact ub_length_10 n (by omega)
    have hR : Ev (fun k => laws_rowsOf.f k a0 1 0 1 13 a3 P 2) ([rowS r1, rowS r2], true) := rowsOf_ev (rows := [r1, r2]) (by omega) (by omega) (by omega) (by omega) (by omega)
      (by rw [hP]; exact cons_bytes (by omega) (app_bytes (ubp_bytes _ _) (cons_bytes (by omega) (cons_bytes (by omega) (cons_bytes (by omega) (cons_bytes (by omega) nil_bytes))))))
      (by rw [hP]; simp; omega) (by rw [← eP] at hT; exact hT) (by simp) (by
        intro i hi
        match i, hi with
        | 0, _ => exact e1
        | 1, _ => exact e2)
    obtain ⟨K1, hU⟩ := spec_Unsigned_f n 0 (by omega) (by omega)
    have hU : ∀ k, K1 ≤ k → spec_Unsigned.f k (n : Int) 0 = some (ubp n 0) := hU
    obtain ⟨K2, hF⟩ := spec_Fixed2 a2 false
    have hF : ∀ k, K2 ≤ k → spec_Fixed.f k a2 2 false = some [a2 % 256, a2 / 256 % 256] := hF
    obtain ⟨K3, hR⟩ := hR
    have hR : ∀ k, K3 ≤ k → laws_rowsOf.f k a0 1 0 1 13 a3 P 2 = some ([rowS r1, rowS r2], true) := hR
    refine ⟨K1 + K2 + K3 + 1, ?_⟩
    unfold laws_FnLineFixed.f
    rw [right_f, decide_eq_true (by omega)]
    simp only [Option.bind_some]
    rw [if_pos trivial, if_neg (by omega), if_neg (by omega), if_neg (by omega), if_neg (by omega), decide_eq_false (by omega)]
    simp only [laws_FnLineFixed.j0]
    rw [if_neg (by decide), hu64 (n : Int) (by omega) (by omega), hu64 a2 (by omega) (by omega)]
    simp only [Option.bind_some]
    rw [hU _ (by omega)]
    simp only [Option.bind_some]
    rw [if_pos (by simp; omega), if_pos (by simp; omega), hF _ (by omega)]
    simp only [Option.bind_some]
    rw [if_pos (by simp; omega), if_pos (by simp; omega), show [2] ++ ubp n 0 ++ [9] ++ [a2 % 256, a2 / 256 % 256] ++ [1] = P by rw [hP]; simp, hR _ (by omega)]
    simp only [Option.bind_some]
    rw [if_pos trivial, if_pos (by simp), if_pos (show (rd_T38 [rowS r1, rowS r2] 0).f1 = 0 from e3)]
    have hm : 0 ≤ a0 * (n : Int) ∧ a0 * (n : Int) ≤ 255 * 2147483648 := ⟨Int.mul_nonneg (by omega) (by omega), Int.mul_le_mul (by omega) (by omega) (by omega) (by decide)⟩
    have e4' : r1.ad = a3 + (a0 * (n : Int) + a2) := e4
    show some (r1.ad == _) = some true
    rw [h64 (a0 * (n : Int)) (by omega) (by omega), h64 _ (by omega) (by omega), hu64 (a0 * (n : Int) + a2) (by omega) (by omega), hu64 _ (by omega) (by omega), e4', beq_self_eq_true]

end Go.Proofs.YtnooghnbohjmlaaDoor.Pure
