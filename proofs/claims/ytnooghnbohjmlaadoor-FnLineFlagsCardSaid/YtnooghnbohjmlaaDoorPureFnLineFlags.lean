/- A row has the marks that operations set ahead of it, once; but for that of a statement, which is turned. No conditions beyond the statement's own. -/
import Derived.Test.YtnooghnbohjmlaaDoorPLlawsFnLineFlags
import Derived.Test.YtnooghnbohjmlaaDoorMa
import Derived.Test.YtnooghnbohjmlaaDoorMd
import Derived.Test.YtnooghnbohjmlaaDoorXFlags
namespace Go.Proofs.YtnooghnbohjmlaaDoor.Pure
open Go.RowKit Go.Proofs.YtnooghnbohjmlaaDoor.PPl Go.Proofs.YtnooghnbohjmlaaDoorW.PrintWords Go.Proofs.YtnooghnbohjmlaaDoorW.PrintLast Go.Proofs.YtnooghnbohjmlaaDoorW.PrintMore Go.Proofs.YtnooghnbohjmlaaDoor.Leb Go.Proofs.YtnooghnbohjmlaaDoor.Line

theorem flags_step (b p e t : Bool) (n : Int) (k : Nat) (j : Nat) (hj : j < 4) (L : List Int) (hL : L.length < 1000) :
    laws_FnLineFlags.l0 (k + 1) b p e t n L [b, p, e, t] 4 (j : Int) = laws_FnLineFlags.l0 k b p e t n (L ++ if [b, p, e, t].getD j false = true then [([7, 10, 11, 6] : List Int).getD j 0] else []) [b, p, e, t] 4 ((j + 1 : Nat) : Int) := by
  have hw : wrap64 ((j : Int) + 1) = ((j + 1 : Nat) : Int) := by unfold wrap64; omega
  simp only [laws_FnLineFlags.l0]
  rw [if_pos (by omega), if_pos (by omega), if_pos (by simp; omega), hw]
  have e1 : rdOf false [b, p, e, t] (j : Int) = [b, p, e, t].getD j false := by simp [rdOf]
  have e2 : rd [7, 10, 11, 6] (j : Int) = ([7, 10, 11, 6] : List Int).getD j 0 := by simp [rd]
  rw [e1]
  by_cases c : [b, p, e, t].getD j false = true
  · rw [if_pos c, if_pos c]
    simp only [Option.bind_some]
    rw [if_pos (by simp; omega), if_pos (by omega), e2]
  · rw [if_neg c, if_neg c, List.append_nil]
theorem FnLineFlags : laws_FnLineFlags.Pure := by
  intro a0 a1 a2 a3 a4 w4
  have b4 := wf_i64 w4
  have hu64 : ∀ x : Int, 0 ≤ x → x < 18446744073709551616 → IntKind.u64.wrap x = x := fun x h1 h2 => by rw [IntKind.wrap_u64]; omega
  have h64 : ∀ x : Int, -9223372036854775808 ≤ x → x < 9223372036854775808 → wrap64 x = x := fun x h1 h2 => by unfold wrap64; omega
  by_cases hc : a4 < 0 ∨ a4 > 2147483648
  · refine ⟨1, ?_⟩
    have done : laws_FnLineFlags.j0 1 a0 a1 a2 a3 a4 true = some true := by simp [laws_FnLineFlags.j0]
    unfold laws_FnLineFlags.f
    split
    · exact done
    rw [decide_eq_true (by omega)]
    exact done
  · obtain ⟨n, rfl⟩ : ∃ n : Nat, a4 = (n : Int) := ⟨a4.toNat, by omega⟩
    obtain ⟨M0, hM0⟩ : ∃ M : List Int, M = if a0 = true then [7] else [] := ⟨_, rfl⟩
    obtain ⟨M1, hM1⟩ : ∃ M : List Int, M = if a1 = true then [10] else [] := ⟨_, rfl⟩
    obtain ⟨M2, hM2⟩ : ∃ M : List Int, M = if a2 = true then [11] else [] := ⟨_, rfl⟩
    obtain ⟨M3, hM3⟩ : ∃ M : List Int, M = if a3 = true then [6] else [] := ⟨_, rfl⟩
    have one : ∀ (b : Bool) (x : Int), ((if b = true then [x] else []) : List Int).length ≤ 1 ∧ (0 ≤ x ∧ x < 256 → ∀ y ∈ ((if b = true then [x] else []) : List Int), 0 ≤ y ∧ y < 256) := by
      intro b x
      cases b
      · simp
      · simp
    have k0 : M0.length ≤ 1 := by rw [hM0]; exact (one a0 7).1
    have k1 : M1.length ≤ 1 := by rw [hM1]; exact (one a1 10).1
    have k2 : M2.length ≤ 1 := by rw [hM2]; exact (one a2 11).1
    have k3 : M3.length ≤ 1 := by rw [hM3]; exact (one a3 6).1
    obtain ⟨P, hP⟩ : ∃ P, P = M0 ++ (M1 ++ (M2 ++ (M3 ++ 0 :: (((ubp n 0).length + 1 : Nat) : Int) :: 4 :: (ubp n 0 ++ [1, 1])))) := ⟨_, rfl⟩
    obtain ⟨r1, r2, r3, hT, e1, e2, e3, e4, e5, e6, e7, e8, e9, e10, e11, e12, e13⟩ := say_flags (k := constOf 1 1 false 0 1 13 [] [47, 97] (progOf 0 P)) (F := flA) (n := n) a0 a1 a2 a3 rfl rfl rfl (by omega)
    rw [← hM0, ← hM1, ← hM2, ← hM3] at hT
    have eP : progOf 0 P = 0 :: 9 :: 2 :: (le8 0 ++ (M0 ++ (M1 ++ (M2 ++ (M3 ++ 0 :: (((ubp n 0).length + 1 : Nat) : Int) :: 4 :: (ubp n 0 ++ 1 :: 1 :: [0, 1, 1])))))) := by rw [hP]; simp [progOf]
    have l1 : (ubp n 0).length ≤ 10 := by rw [ubp_length]; exact ub_length_10 n (by omega)
    have hR : Ev (fun k => laws_rowsOf.f k 1 1 0 1 13 0 P 3) ([rowS r1, rowS r2, rowS r3], true) := rowsOf_ev (rows := [r1, r2, r3]) (by omega) (by omega) (by omega) (by omega) (by omega)
      (by rw [hP, hM0, hM1, hM2, hM3]; exact app_bytes ((one a0 7).2 (by omega)) (app_bytes ((one a1 10).2 (by omega)) (app_bytes ((one a2 11).2 (by omega)) (app_bytes ((one a3 6).2 (by omega)) (cons_bytes (by omega) (cons_bytes (by omega) (cons_bytes (by omega) (app_bytes (ubp_bytes _ _) (cons_bytes (by omega) (cons_bytes (by omega) nil_bytes))))))))))
      (by rw [hP]; simp; omega) (by rw [← eP] at hT; exact hT) (by simp) (by
        intro i hi
        match i, hi with
        | 0, _ => exact e1
        | 1, _ => exact e2
        | 2, _ => exact e3)
    obtain ⟨K1, hU⟩ := spec_Unsigned_f n 0 (by omega) (by omega)
    have hU : ∀ k, K1 ≤ k → spec_Unsigned.f k (n : Int) 0 = some (ubp n 0) := hU
    obtain ⟨K3, hR⟩ := hR
    have hR : ∀ k, K3 ≤ k → laws_rowsOf.f k 1 1 0 1 13 0 P 3 = some ([rowS r1, rowS r2, rowS r3], true) := hR
    refine ⟨K1 + K3 + 6, ?_⟩
    unfold laws_FnLineFlags.f
    rw [if_neg (by omega), decide_eq_false (by omega)]
    simp only [laws_FnLineFlags.j0]
    rw [if_neg (by decide)]
    simp only [Option.bind_some]
    show laws_FnLineFlags.l0 (K1 + K3 + 4 + 1) a0 a1 a2 a3 (n : Int) [] [a0, a1, a2, a3] 4 ((0 : Nat) : Int) = some true
    rw [flags_step _ _ _ _ _ _ _ (by decide) _ (by simp), show (([] : List Int) ++ if [a0, a1, a2, a3].getD 0 false = true then [([7, 10, 11, 6] : List Int).getD 0 0] else []) = M0 by rw [hM0]; simp]
    rw [flags_step _ _ _ _ _ (K1 + K3 + 3) _ (by decide) _ (by omega), show (M0 ++ if [a0, a1, a2, a3].getD 1 false = true then [([7, 10, 11, 6] : List Int).getD 1 0] else []) = M0 ++ M1 by rw [hM1]; simp]
    rw [flags_step _ _ _ _ _ (K1 + K3 + 2) _ (by decide) _ (by simp; omega), show (M0 ++ M1 ++ if [a0, a1, a2, a3].getD 2 false = true then [([7, 10, 11, 6] : List Int).getD 2 0] else []) = M0 ++ M1 ++ M2 by rw [hM2]; simp]
    rw [flags_step _ _ _ _ _ (K1 + K3 + 1) _ (by decide) _ (by simp; omega), show (M0 ++ M1 ++ M2 ++ if [a0, a1, a2, a3].getD 3 false = true then [([7, 10, 11, 6] : List Int).getD 3 0] else []) = M0 ++ M1 ++ M2 ++ M3 by rw [hM3]; simp]
    show laws_FnLineFlags.l0 (K1 + K3 + 1) a0 a1 a2 a3 (n : Int) (M0 ++ M1 ++ M2 ++ M3) [a0, a1, a2, a3] 4 4 = some true
    simp only [laws_FnLineFlags.l0]
    rw [if_neg (by decide), hu64 (n : Int) (by omega) (by omega), hU _ (by omega)]
    simp only [Option.bind_some]
    rw [if_pos (by simp; omega), if_pos (by simp; omega)]
    simp only [laws_usual.f, Option.bind_some]
    rw [if_pos (by simp; omega), h64 (((ubp n 0).length : Int) + 1) (by omega) (by omega)]
    rw [show M0 ++ M1 ++ M2 ++ M3 ++ [0, (((ubp n 0).length : Int) + 1) % 256, 4] ++ ubp n 0 ++ [1, 1] = P by rw [hP, show (((ubp n 0).length : Int) + 1) % 256 = (((ubp n 0).length + 1 : Nat) : Int) by omega]; simp, hR _ (by omega)]
    simp only [Option.bind_some]
    rw [if_pos trivial, if_pos (by simp), if_pos (by simp), if_pos (show (((rd_T38 [rowS r1, rowS r2, rowS r3] 0).f6) == a0) = true from beq_iff_eq.2 e4), if_pos (show (((rd_T38 [rowS r1, rowS r2, rowS r3] 0).f7) == a1) = true from beq_iff_eq.2 e5), if_pos (show (((rd_T38 [rowS r1, rowS r2, rowS r3] 0).f8) == a2) = true from beq_iff_eq.2 e6), if_pos (show (((rd_T38 [rowS r1, rowS r2, rowS r3] 0).f5) == a3) = true from beq_iff_eq.2 e7), if_pos (show (rd_T38 [rowS r1, rowS r2, rowS r3] 0).f10 = (n : Int) from e8),
      if_neg (show ¬ ((rd_T38 [rowS r1, rowS r2, rowS r3] 1).f6 = true) from by intro h; rw [show (rd_T38 [rowS r1, rowS r2, rowS r3] 1).f6 = false from e9] at h; cases h), if_neg (show ¬ ((rd_T38 [rowS r1, rowS r2, rowS r3] 1).f7 = true) from by intro h; rw [show (rd_T38 [rowS r1, rowS r2, rowS r3] 1).f7 = false from e10] at h; cases h), if_neg (show ¬ ((rd_T38 [rowS r1, rowS r2, rowS r3] 1).f8 = true) from by intro h; rw [show (rd_T38 [rowS r1, rowS r2, rowS r3] 1).f8 = false from e11] at h; cases h), if_pos (show (((rd_T38 [rowS r1, rowS r2, rowS r3] 1).f5) == a3) = true from beq_iff_eq.2 e12)]
    show some (r2.di == (0 : Int)) = some true
    rw [e13, beq_self_eq_true]

end Go.Proofs.YtnooghnbohjmlaaDoor.Pure
