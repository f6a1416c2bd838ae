/- An address that is set is that of the next row. No conditions beyond the statement's own. -/
import Derived.Test.YtnooghnbohjmlaaDoorPLlawsFnLineSet
import Derived.Test.YtnooghnbohjmlaaDoorMa
import Derived.Test.YtnooghnbohjmlaaDoorMd
namespace Go.Proofs.YtnooghnbohjmlaaDoor.Pure
open Go.RowKit Go.Proofs.YtnooghnbohjmlaaDoor.PPl Go.Proofs.YtnooghnbohjmlaaDoorW.PrintWords Go.Proofs.YtnooghnbohjmlaaDoorW.PrintLast Go.Proofs.YtnooghnbohjmlaaDoorW.PrintMore Go.Proofs.YtnooghnbohjmlaaDoor.Leb Go.Proofs.YtnooghnbohjmlaaDoor.Line

theorem FnLineSet : laws_FnLineSet.Pure := by
  intro a0 a1 a2 w0 w1 w2
  have b0 := wf_i64 w0
  have b1 := wf_u64 w1
  have b2 := wf_u64 w2
  have hu64 : ∀ x : Int, 0 ≤ x → x < 18446744073709551616 → IntKind.u64.wrap x = x := fun x h1 h2 => by rw [IntKind.wrap_u64]; omega
  have h64 : ∀ x : Int, -9223372036854775808 ≤ x → x < 9223372036854775808 → wrap64 x = x := fun x h1 h2 => by unfold wrap64; omega
  by_cases hc : a0 < 0 ∨ a0 > 2147483648 ∨ a1 > 4611686018427387904 ∨ a2 > 4611686018427387904
  · refine ⟨1, ?_⟩
    have done : laws_FnLineSet.j0 1 a0 a1 a2 true = some true := by simp [laws_FnLineSet.j0]
    unfold laws_FnLineSet.f
    split
    · exact done
    split
    · exact done
    split
    · exact done
    rw [decide_eq_true (by omega)]
    exact done
  · obtain ⟨n, rfl⟩ : ∃ n : Nat, a0 = (n : Int) := ⟨a0.toNat, by omega⟩
    obtain ⟨P, hP⟩ : ∃ P, P = 2 :: (ubp n 0 ++ 0 :: 9 :: 2 :: (le8 a2 ++ [1])) := ⟨_, rfl⟩
    obtain ⟨r1, r2, hT, e1, e2, e3, e4, e5⟩ := say_set (k := constOf 1 1 false 0 1 13 [] [47, 97] (progOf a1 P)) (F := flA) (ad := a1) (nx := a2) (n := n) rfl ⟨by show (0 : Int) ≤ 1; decide, by show (1 : Int) < 256; decide⟩ rfl rfl rfl ⟨by omega, by omega⟩ (by omega) ⟨by omega, by omega⟩
    have eP : progOf a1 P = 0 :: 9 :: 2 :: (le8 a1 ++ 2 :: (ubp n 0 ++ 0 :: 9 :: 2 :: (le8 a2 ++ 1 :: [0, 1, 1]))) := by rw [hP]; simp [progOf]
    have hul : (ubp n 0).length ≤ 10 := by rw [ubp_length]; exact ub_length_10 n (by omega)
    have l8 : (le8 a2).length = 8 := rfl
    have hR : Ev (fun k => laws_rowsOf.f k 1 1 0 1 13 a1 P 2) ([rowS r1, rowS r2], true) := rowsOf_ev (rows := [r1, r2]) (by omega) (by omega) (by omega) (by omega) (by omega)
      (by rw [hP]; exact cons_bytes (by omega) (app_bytes (ubp_bytes _ _) (cons_bytes (by omega) (cons_bytes (by omega) (cons_bytes (by omega) (app_bytes (le8_bytes _) (cons_bytes (by omega) nil_bytes)))))))
      (by rw [hP]; simp [l8]; omega) (by rw [← eP] at hT; exact hT) (by simp) (by
        intro i hi
        match i, hi with
        | 0, _ => exact e1
        | 1, _ => exact e2)
    obtain ⟨K1, hU⟩ := spec_Unsigned_f n 0 (by omega) (by omega)
    have hU : ∀ k, K1 ≤ k → spec_Unsigned.f k (n : Int) 0 = some (ubp n 0) := hU
    obtain ⟨K2, hF⟩ := spec_Fixed8 a2 false
    have hF : ∀ k, K2 ≤ k → spec_Fixed.f k a2 8 false = some (le8 a2) := hF
    obtain ⟨K3, hR⟩ := hR
    have hR : ∀ k, K3 ≤ k → laws_rowsOf.f k 1 1 0 1 13 a1 P 2 = some ([rowS r1, rowS r2], true) := hR
    refine ⟨K1 + K2 + K3 + 1, ?_⟩
    unfold laws_FnLineSet.f
    rw [if_neg (by omega), if_neg (by omega), if_neg (by omega), decide_eq_false (by omega)]
    simp only [laws_FnLineSet.j0]
    rw [if_neg (by decide), hu64 _ (by omega) (by omega)]
    simp only [Option.bind_some]
    rw [hU _ (by omega)]
    simp only [Option.bind_some]
    rw [if_pos (by simp; omega), if_pos (by simp; omega)]
    simp only [laws_usual.f, Option.bind_some]
    rw [hF _ (by omega)]
    simp only [Option.bind_some]
    rw [if_pos (by simp [l8]; omega), if_pos (by simp [l8]; omega), show [2] ++ ubp n 0 ++ [0, 9, 2] ++ le8 a2 ++ [1] = P by rw [hP]; simp, hR _ (by omega)]
    simp only [Option.bind_some]
    rw [if_pos trivial, if_pos (by simp), if_pos (show (rd_T38 [rowS r1, rowS r2] 0).f1 = 0 from e3), if_pos (show (rd_T38 [rowS r1, rowS r2] 0).f0 = a2 from e4), if_pos (by simp)]
    show some (r2.ad == a2) = some true
    rw [e5, beq_self_eq_true]

end Go.Proofs.YtnooghnbohjmlaaDoor.Pure
