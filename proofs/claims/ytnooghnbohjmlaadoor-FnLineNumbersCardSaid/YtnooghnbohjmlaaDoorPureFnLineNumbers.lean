/- Numbers in LEB128 are read, with bytes more than they need, too. No conditions beyond the statement's own. -/
import Derived.Test.YtnooghnbohjmlaaDoorPLlawsFnLineNumbers
import Derived.Test.YtnooghnbohjmlaaDoorMa
import Derived.Test.YtnooghnbohjmlaaDoorMd
import Derived.Test.YtnooghnbohjmlaaDoorSignedF
namespace Go.Proofs.YtnooghnbohjmlaaDoor.Pure
open Go.RowKit Go.Proofs.YtnooghnbohjmlaaDoor.PPl Go.Proofs.YtnooghnbohjmlaaDoorW.PrintWords Go.Proofs.YtnooghnbohjmlaaDoorW.PrintLast Go.Proofs.YtnooghnbohjmlaaDoorW.PrintMore Go.Proofs.YtnooghnbohjmlaaDoor.Leb Go.Proofs.YtnooghnbohjmlaaDoor.Line

theorem FnLineNumbers : laws_FnLineNumbers.Pure := by
  intro a0 a1 a2 a3 a4 w0 w1 w2 w3 w4
  have b0 := wf_i64 w0
  have b1 := wf_i64 w1
  have b2 := wf_i64 w2
  have b3 := wf_i64 w3
  have b4 := wf_i64 w4
  have hu64 : ∀ x : Int, 0 ≤ x → x < 18446744073709551616 → IntKind.u64.wrap x = x := fun x h1 h2 => by rw [IntKind.wrap_u64]; omega
  have h64 : ∀ x : Int, -9223372036854775808 ≤ x → x < 9223372036854775808 → wrap64 x = x := fun x h1 h2 => by unfold wrap64; omega
  by_cases hc : a0 < 0 ∨ a0 > 2147483648 ∨ a1 < 0 ∨ a1 > 2147483648 ∨ a3 < 0 ∨ a3 > a2 ∨ a2 > 2147483648 ∨ a4 < 0 ∨ a4 > 3
  · refine ⟨1, ?_⟩
    have done : laws_FnLineNumbers.j0 1 a0 a1 a2 a3 a4 true = some true := by simp [laws_FnLineNumbers.j0]
    unfold laws_FnLineNumbers.f
    split
    · exact done
    split
    · exact done
    split
    · exact done
    split
    · exact done
    split
    · exact done
    split
    · exact done
    split
    · exact done
    split
    · exact done
    rw [decide_eq_true (by omega)]
    exact done
  · obtain ⟨co, rfl⟩ : ∃ n : Nat, a0 = (n : Int) := ⟨a0.toNat, by omega⟩
    obtain ⟨isa, rfl⟩ : ∃ n : Nat, a1 = (n : Int) := ⟨a1.toNat, by omega⟩
    obtain ⟨up, rfl⟩ : ∃ n : Nat, a2 = (n : Int) := ⟨a2.toNat, by omega⟩
    obtain ⟨down, rfl⟩ : ∃ n : Nat, a3 = (n : Int) := ⟨a3.toNat, by omega⟩
    obtain ⟨pad, rfl⟩ : ∃ n : Nat, a4 = (n : Int) := ⟨a4.toNat, by omega⟩
    obtain ⟨P, hP⟩ : ∃ P, P = 5 :: (ubp co pad ++ 12 :: (ubp isa pad ++ 3 :: (sbp (up : Int) pad ++ 1 :: 3 :: (sbp (-(down : Int)) pad ++ [1])))) := ⟨_, rfl⟩
    obtain ⟨r1, r2, r3, hT, e1, e2, e3, e4, e5, e6, e7, e8, e9⟩ := say_numbers (k := constOf 1 1 false 0 1 13 [] [47, 97] (progOf 0 P)) (F := flA) (co := co) (isa := isa) (up := up) (down := down) pad rfl rfl rfl (by omega) (by omega) (by omega) (by omega)
    have eP : progOf 0 P = 0 :: 9 :: 2 :: (le8 0 ++ 5 :: (ubp co pad ++ 12 :: (ubp isa pad ++ 3 :: (sbp (up : Int) pad ++ 1 :: 3 :: (sbp (-(down : Int)) pad ++ 1 :: [0, 1, 1]))))) := by rw [hP]; simp [progOf]
    have l1 : (ubp co pad).length ≤ 13 := by rw [ubp_length]; have := ub_length_10 co (by omega); omega
    have l2 : (ubp isa pad).length ≤ 13 := by rw [ubp_length]; have := ub_length_10 isa (by omega); omega
    have l3 : (sbp (up : Int) pad).length ≤ 13 := by rw [sbp_length]; have := sb_length_10 (up : Int) (by omega) (by omega); omega
    have l4 : (sbp (-(down : Int)) pad).length ≤ 13 := by rw [sbp_length]; have := sb_length_10 (-(down : Int)) (by omega) (by omega); omega
    have hR : Ev (fun k => laws_rowsOf.f k 1 1 0 1 13 0 P 3) ([rowS r1, rowS r2, rowS r3], true) := rowsOf_ev (rows := [r1, r2, r3]) (by omega) (by omega) (by omega) (by omega) (by omega)
      (by rw [hP]; exact cons_bytes (by omega) (app_bytes (ubp_bytes _ _) (cons_bytes (by omega) (app_bytes (ubp_bytes _ _) (cons_bytes (by omega) (app_bytes (sbp_bytes _ _) (cons_bytes (by omega) (cons_bytes (by omega) (app_bytes (sbp_bytes _ _) (cons_bytes (by omega) nil_bytes))))))))))
      (by rw [hP]; simp; omega) (by rw [← eP] at hT; exact hT) (by simp) (by
        intro i hi
        match i, hi with
        | 0, _ => exact e1
        | 1, _ => exact e2
        | 2, _ => exact e3)
    obtain ⟨K1, hU⟩ := spec_Unsigned_f co pad (by omega) (by omega)
    have hU : ∀ k, K1 ≤ k → spec_Unsigned.f k (co : Int) (pad : Int) = some (ubp co pad) := hU
    obtain ⟨K2, hV⟩ := spec_Unsigned_f isa pad (by omega) (by omega)
    have hV : ∀ k, K2 ≤ k → spec_Unsigned.f k (isa : Int) (pad : Int) = some (ubp isa pad) := hV
    obtain ⟨K4, hS⟩ := spec_Signed_f (up : Int) pad (by omega) (by omega)
    have hS : ∀ k, K4 ≤ k → spec_Signed.f k (up : Int) (pad : Int) = some (sbp (up : Int) pad) := hS
    obtain ⟨K5, hW⟩ := spec_Signed_f (-(down : Int)) pad (by omega) (by omega)
    have hW : ∀ k, K5 ≤ k → spec_Signed.f k (-(down : Int)) (pad : Int) = some (sbp (-(down : Int)) pad) := hW
    obtain ⟨K3, hR⟩ := hR
    have hR : ∀ k, K3 ≤ k → laws_rowsOf.f k 1 1 0 1 13 0 P 3 = some ([rowS r1, rowS r2, rowS r3], true) := hR
    refine ⟨K1 + K2 + K3 + K4 + K5 + 1, ?_⟩
    unfold laws_FnLineNumbers.f
    rw [if_neg (by omega), if_neg (by omega), if_neg (by omega), if_neg (by omega), if_neg (by omega), if_neg (by omega), if_neg (by omega), if_neg (by omega), decide_eq_false (by omega)]
    simp only [laws_FnLineNumbers.j0]
    rw [if_neg (by decide), hu64 (co : Int) (by omega) (by omega), hu64 (isa : Int) (by omega) (by omega), h64 (-(down : Int)) (by omega) (by omega), h64 (1 + (up : Int)) (by omega) (by omega), h64 (1 + (up : Int) - (down : Int)) (by omega) (by omega)]
    simp only [Option.bind_some]
    rw [hU _ (by omega)]
    simp only [Option.bind_some]
    rw [if_pos (by simp; omega), if_pos (by simp; omega), hV _ (by omega)]
    simp only [Option.bind_some]
    rw [if_pos (by simp; omega), if_pos (by simp; omega), hS _ (by omega)]
    simp only [Option.bind_some]
    rw [if_pos (by simp; omega), if_pos (by simp; omega), if_pos (by simp; omega), hW _ (by omega)]
    simp only [Option.bind_some]
    rw [if_pos (by simp; omega), if_pos (by simp; omega)]
    simp only [laws_usual.f, Option.bind_some]
    rw [show [5] ++ ubp co pad ++ [12] ++ ubp isa pad ++ [3] ++ sbp (up : Int) pad ++ [1] ++ [3] ++ sbp (-(down : Int)) pad ++ [1] = P by rw [hP]; simp, hR _ (by omega)]
    simp only [Option.bind_some]
    rw [if_pos trivial, if_pos (by simp), if_pos (show (rd_T38 [rowS r1, rowS r2, rowS r3] 0).f4 = (co : Int) from e4), if_pos (show (rd_T38 [rowS r1, rowS r2, rowS r3] 0).f9 = (isa : Int) from e5), if_pos (show (rd_T38 [rowS r1, rowS r2, rowS r3] 0).f3 = 1 + (up : Int) from e6), if_pos (by simp), if_pos (show (rd_T38 [rowS r1, rowS r2, rowS r3] 1).f3 = 1 + (up : Int) - (down : Int) from e7), if_pos (show (rd_T38 [rowS r1, rowS r2, rowS r3] 1).f4 = (co : Int) from e8)]
    show some (r2.isa == (isa : Int)) = some true
    rw [e9, beq_self_eq_true]

end Go.Proofs.YtnooghnbohjmlaaDoor.Pure
