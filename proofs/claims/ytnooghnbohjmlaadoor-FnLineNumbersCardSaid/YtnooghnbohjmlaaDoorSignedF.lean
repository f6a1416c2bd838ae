/- Signed numbers in LEB128, as the printed function tells them. -/
import Derived.Test.YtnooghnbohjmlaaDoorPLspecSigned
import Derived.Test.YtnooghnbohjmlaaDoorMd
namespace Go.Proofs.YtnooghnbohjmlaaDoor.PPl
open Go.RowKit Go.Proofs.YtnooghnbohjmlaaDoorW.PrintWords Go.Proofs.YtnooghnbohjmlaaDoorW.PrintLast Go.Proofs.YtnooghnbohjmlaaDoorW.PrintMore Go.Proofs.YtnooghnbohjmlaaDoor.Leb Go.Proofs.YtnooghnbohjmlaaDoor.Line

theorem sdg_length_le (m : Nat) : ∀ n last : Int, -(64 * 128 ^ m) ≤ n → n < 64 * 128 ^ m → (sdg n last).length ≤ m + 2 := by
  induction m with
  | zero =>
    intro n last h1 h2
    by_cases h : sEnd n last = true
    · rw [sdg_nil h]; simp
    · rw [sdg_cons h, sdg_nil (by rw [sEnd_iff]; omega)]; simp
  | succ m ih =>
    intro n last h1 h2
    by_cases h : sEnd n last = true
    · rw [sdg_nil h]; simp
    · rw [sdg_cons h, List.length_cons]
      have := ih (n / 128) (n % 128) (by rw [Int.pow_succ] at h1; omega) (by rw [Int.pow_succ] at h2; omega)
      omega

theorem psigned_l1 (x0 : Int) (pad : Nat) : ∀ (k : Nat) (x5 : List Int), x5 ≠ [] → pad + x5.length + pad + 1 ≤ k → x5.length + pad < 140737488355328 → spec_Signed.l1 k x0 (pad : Int) x5 = some (carr (x5 ++ List.replicate pad (x0 % 128))) := by
  induction pad with
  | zero =>
    intro k x5 h hk hl
    obtain ⟨k, rfl⟩ : ∃ m, k = m + 1 := ⟨k - 1, by omega⟩
    simp only [spec_Signed.l1]
    rw [if_neg (by simp)]
    have := carried_l0 x5 k [] h (by omega) (by simp; omega)
    simp only [List.nil_append, List.length_nil] at this
    unfold spec_carried.f
    rw [show (0 : Int) = ((0 : Nat) : Int) from rfl, this]
    simp
  | succ pad ih =>
    intro k x5 h hk hl
    obtain ⟨k, rfl⟩ : ∃ m, k = m + 1 := ⟨k - 1, by omega⟩
    simp only [spec_Signed.l1]
    rw [if_pos (by omega), if_pos (by omega), i64_and127, show x0 % 128 % 256 = x0 % 128 by omega, show wrap64 (((pad + 1 : Nat) : Int) - 1) = (pad : Int) by unfold wrap64; omega, ih k _ (by simp) (by simp; omega) (by simp; omega), List.replicate_succ]
    simp

theorem psigned_step_end (k : Nat) (n last pad : Int) (x5 : List Int) (he : sEnd n last = true) : spec_Signed.l0 (k + 1) n pad x5 last = spec_Signed.j1 k n pad x5 := by
  simp only [spec_Signed.l0]
  rw [sEnd_iff] at he
  rcases he with ⟨rfl, hl⟩ | ⟨rfl, hl⟩
  · rw [if_pos rfl, if_neg (by simp; omega)]
  · rw [if_neg (by decide), if_pos rfl, if_neg (by simp; omega)]

theorem psigned_step_more (k : Nat) (n last pad : Int) (x5 : List Int) (he : ¬ sEnd n last = true) (hl : x5.length < 140737488355328) : spec_Signed.l0 (k + 1) n pad x5 last = spec_Signed.l0 k (n / 128) pad (x5 ++ [n % 128]) (n % 128) := by
  have hw : wrap64 (((x5 ++ [n % 128]).length : Int) - 1) = (x5.length : Int) := by simp; unfold wrap64; omega
  have hr : rd (x5 ++ [n % 128]) (x5.length : Int) = n % 128 := by simp [rd]
  have e1 : n % 128 % 256 = n % 128 := by omega
  simp only [spec_Signed.l0]
  rw [i64_and127, e1]
  simp only [Option.bind_some]
  rw [hw, hr, if_pos hl, if_pos (show (0 : Int) ≤ (x5.length : Int) by omega), if_pos (show (x5.length : Int) < ((x5 ++ [n % 128]).length : Int) by simp; omega)]
  rw [sEnd_iff] at he
  by_cases h0 : n = 0
  · rw [if_pos h0, if_pos]
    subst h0
    simp
    omega
  · rw [if_neg h0]
    by_cases h1 : n = -1
    · rw [if_pos h1, if_pos]
      subst h1
      simp
      omega
    · rw [if_neg h1]

theorem psigned_l0 (d : Nat) (pad : Nat) : ∀ (n last : Int), (sdg n last).length = d → ∀ (k : Nat) (x5 : List Int), x5 ≠ [] → d + x5.length + d + pad + pad + 4 ≤ k → x5.length + d + pad < 140737488355328 → spec_Signed.l0 k n (pad : Int) x5 last = some (carr (x5 ++ (sdg n last ++ List.replicate pad (fill n)))) := by
  induction d with
  | zero =>
    intro n last hd k x5 h hk hl
    by_cases he : sEnd n last = true
    · obtain ⟨k, rfl⟩ : ∃ m, k = m + 1 + 1 := ⟨k - 2, by omega⟩
      have hf : n % 128 = fill n := by
        rw [sEnd_iff] at he
        rcases he with ⟨rfl, _⟩ | ⟨rfl, _⟩ <;> rfl
      rw [psigned_step_end _ _ _ _ _ he]
      simp only [spec_Signed.j1]
      rw [psigned_l1 n pad k x5 h (by omega) (by omega), sdg_nil he, List.nil_append, hf]
    · rw [sdg_cons he] at hd; simp at hd
  | succ d ih =>
    intro n last hd k x5 h hk hl
    by_cases he : sEnd n last = true
    · rw [sdg_nil he] at hd; simp at hd
    · obtain ⟨k, rfl⟩ : ∃ m, k = m + 1 := ⟨k - 1, by omega⟩
      have e : fill n = fill (n / 128) := by unfold fill; by_cases h : n < 0 <;> simp [h] <;> omega
      rw [sdg_cons he, List.length_cons] at hd
      rw [psigned_step_more _ _ _ _ _ he (by omega), ih (n / 128) (n % 128) (by omega) k _ (by simp) (by simp; omega) (by simp; omega), sdg_cons he, e]
      simp

theorem psigned_f (n : Int) (pad : Nat) (hp : pad ≤ 3) (h1 : -281474976710656 ≤ n) (h2 : n ≤ 281474976710656) : (sdig n pad).length ≤ 14 ∧ ∀ k, 60 ≤ k → spec_Signed.f k n (pad : Int) = some (carr (sdig n pad)) := by
  have e8 : (64 : Int) * 128 ^ 8 = 4611686018427387904 := by decide
  have hd := sdg_length_le 8 (n / 128) (n % 128) (by omega) (by omega)
  refine ⟨by simp [sdig]; omega, fun k hk => ?_⟩
  unfold spec_Signed.f
  rw [i64_and127, show n % 128 % 256 = n % 128 by omega]
  simp only [Option.bind_some]
  have e : fill n = fill (n / 128) := by unfold fill; by_cases h : n < 0 <;> simp [h] <;> omega
  rw [if_pos (by simp), show rd [n % 128] 0 = n % 128 from rfl, psigned_l0 _ pad (n / 128) (n % 128) rfl k [n % 128] (by simp) (by simp; omega) (by simp; omega), sdig, e]
  rfl

theorem spec_Signed_f (n : Int) (pad : Nat) (hp : pad ≤ 3) (h : -281474976710656 ≤ n ∧ n ≤ 281474976710656) : Ev (fun k => spec_Signed.f k n (pad : Int)) (sbp n pad) :=
  ⟨60, (psigned_f n pad hp h.1 h.2).2⟩
end Go.Proofs.YtnooghnbohjmlaaDoor.PPl
