/- An extended operation that no version knows is passed over, whatever stands in it. No conditions beyond the statement's own. -/
import Derived.Test.YtnooghnbohjmlaaDoorPLlawsFnLinePassed
import Derived.Test.YtnooghnbohjmlaaDoorMa
import Derived.Test.YtnooghnbohjmlaaDoorMd
namespace Go.Proofs.YtnooghnbohjmlaaDoor.Pure
open Go.RowKit Go.Proofs.YtnooghnbohjmlaaDoor.PPl Go.Proofs.YtnooghnbohjmlaaDoorW.PrintWords Go.Proofs.YtnooghnbohjmlaaDoorW.PrintLast Go.Proofs.YtnooghnbohjmlaaDoorW.PrintMore Go.Proofs.YtnooghnbohjmlaaDoor.Leb Go.Proofs.YtnooghnbohjmlaaDoor.Line

theorem FnLinePassed : laws_FnLinePassed.Pure := by
  intro a0 l1 a2 w0 _ _ wl w2
  have b0 := wf_i64 w0
  have b2 := wf_u64 w2
  have hb : Bytes l1 := fun b hb => wf_u8 (wl b hb)
  have hu64 : ∀ x : Int, 0 ≤ x → x < 18446744073709551616 → IntKind.u64.wrap x = x := fun x h1 h2 => by rw [IntKind.wrap_u64]; omega
  have h64 : ∀ x : Int, -9223372036854775808 ≤ x → x < 9223372036854775808 → wrap64 x = x := fun x h1 h2 => by unfold wrap64; omega
  by_cases hz : (l1.length : Int) > 2147483647
  · exact ⟨0, by unfold laws_FnLinePassed.f; rw [if_pos hz]⟩
  by_cases hc : a0 < 5 ∨ a0 > 255 ∨ (l1.length : Int) > 65536 ∨ a2 > 4611686018427387904
  · refine ⟨1, ?_⟩
    have done : laws_FnLinePassed.j0 1 a0 l1 a2 true = some true := by simp [laws_FnLinePassed.j0]
    unfold laws_FnLinePassed.f
    rw [if_neg hz]
    split
    · exact done
    split
    · exact done
    split
    · exact done
    rw [decide_eq_true (by omega)]
    exact done
  · obtain ⟨P, hP⟩ : ∃ P, P = 0 :: (ubp (l1.length + 1) 0 ++ a0 :: (l1 ++ [1])) := ⟨_, rfl⟩
    obtain ⟨r1, r2, hT, e1, e2, e3, e4, e5, e6⟩ := say_passed (k := constOf 1 1 false 0 1 13 [] [47, 97] (progOf a2 P)) (F := flA) (ad := a2) (op := a0) (b := l1) rfl (by omega) rfl rfl ⟨by omega, by omega⟩
    have eP : progOf a2 P = 0 :: 9 :: 2 :: (le8 a2 ++ 0 :: (ubp (l1.length + 1) 0 ++ a0 :: (l1 ++ 1 :: [0, 1, 1]))) := by rw [hP]; simp [progOf]
    have hul : (ubp (l1.length + 1) 0).length ≤ 10 := by rw [ubp_length]; exact ub_length_10 _ (by omega)
    have hR : Ev (fun k => laws_rowsOf.f k 1 1 0 1 13 a2 P 2) ([rowS r1, rowS r2], true) := rowsOf_ev (rows := [r1, r2]) (by omega) (by omega) (by omega) (by omega) (by omega)
      (by rw [hP]; exact cons_bytes (by omega) (app_bytes (ubp_bytes _ _) (cons_bytes (by omega) (app_bytes hb (cons_bytes (by omega) nil_bytes)))))
      (by rw [hP]; simp; omega) (by rw [← eP] at hT; exact hT) (by simp) (by
        intro i hi
        match i, hi with
        | 0, _ => exact e1
        | 1, _ => exact e2)
    obtain ⟨K1, hU⟩ := spec_Unsigned_f (l1.length + 1) 0 (by omega) (by omega)
    have hU : ∀ k, K1 ≤ k → spec_Unsigned.f k ((l1.length + 1 : Nat) : Int) 0 = some (ubp (l1.length + 1) 0) := hU
    obtain ⟨K3, hR⟩ := hR
    have hR : ∀ k, K3 ≤ k → laws_rowsOf.f k 1 1 0 1 13 a2 P 2 = some ([rowS r1, rowS r2], true) := hR
    refine ⟨K1 + K3 + 1, ?_⟩
    unfold laws_FnLinePassed.f
    rw [if_neg hz, if_neg (by omega), if_neg (by omega), if_neg (by omega), decide_eq_false (by omega)]
    simp only [laws_FnLinePassed.j0]
    have ew : IntKind.u64.wrap (wrap64 ((l1.length : Int) + 1)) = ((l1.length + 1 : Nat) : Int) := by rw [h64 _ (by omega) (by omega), hu64 _ (by omega) (by omega)]; omega
    have em : a0 % 256 = a0 := by omega
    rw [if_neg (by decide), ew, em]
    simp only [Option.bind_some]
    rw [hU _ (by omega)]
    simp only [Option.bind_some]
    rw [if_pos (by simp; omega), if_pos (by simp; omega)]
    simp only [laws_usual.f, Option.bind_some]
    rw [if_pos (by simp; omega), if_pos (by simp; omega), show [0] ++ ubp (l1.length + 1) 0 ++ [a0] ++ l1 ++ [1] = P by rw [hP]; simp, hR _ (by omega)]
    simp only [Option.bind_some]
    rw [if_pos trivial, if_pos (by simp), if_pos (show (rd_T38 [rowS r1, rowS r2] 0).f0 = a2 from e3), if_pos (show (rd_T38 [rowS r1, rowS r2] 0).f3 = 1 from e4), if_pos (show (rd_T38 [rowS r1, rowS r2] 0).f4 = 0 from e5)]
    show some (r1.di == 0) = some true
    rw [e6]
    rfl

end Go.Proofs.YtnooghnbohjmlaaDoor.Pure
