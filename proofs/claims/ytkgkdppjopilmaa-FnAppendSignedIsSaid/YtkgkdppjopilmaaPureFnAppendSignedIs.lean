/- What the writer of signed LEB128 appends is what the reference writes, for every list of bytes and every number. No conditions. -/
import Derived.Test.YtkgkdppjopilmaaPFnAppendSignedIsx2
import Derived.Test.YtkgkdppjopilmaaLeb
namespace Go.Proofs.Ytkgkdppjopilmaa.Pure
open Go.RowKit Go.Proofs.Ytkgkdppjopilmaa.PFnAppendSignedIs Go.Proofs.YtkgkdppjopilmaaW.PrintWords Go.Proofs.YtkgkdppjopilmaaW.PrintLast Go.Proofs.Ytkgkdppjopilmaa.Leb Go.Proofs.Ytkgkdppjopilmaa.Given

theorem sleb_j1_more (k : Nat) (x0 : List Int) (v c : Int) (h0 : 0 ≤ c) (hc : c < 128) (hl : x0.length < 140737488355328) :
    dwarfwrite_AppendSleb128.j1 (k + 1) x0 v c true = dwarfwrite_AppendSleb128.l0 k (x0 ++ [c + 128]) v := by
  obtain ⟨c, rfl⟩ := Int.eq_ofNat_of_zero_le h0
  simp only [dwarfwrite_AppendSleb128.j1]
  rw [if_pos trivial, if_pos hl, or128_u8 c (by omega), and128_u8 _ (by omega)]
  simp only [Option.bind_some]
  rw [if_neg (by omega)]
  congr 1
theorem sleb_j1_last (k : Nat) (x0 : List Int) (v c : Int) (h0 : 0 ≤ c) (hc : c < 128) (hl : x0.length < 140737488355328) :
    dwarfwrite_AppendSleb128.j1 (k + 1) x0 v c false = some (x0 ++ [c]) := by
  obtain ⟨c, rfl⟩ := Int.eq_ofNat_of_zero_le h0
  simp only [dwarfwrite_AppendSleb128.j1]
  rw [if_neg (by simp), if_pos hl, and128_u8 _ (by omega)]
  simp only [Option.bind_some]
  rw [if_pos (by omega)]

theorem sleb_step (k : Nat) (x0 : List Int) (n : Int) : dwarfwrite_AppendSleb128.l0 (k + 1) x0 n = dwarfwrite_AppendSleb128.j1 k x0 (n / 128) (n % 128) (!sEnd (n / 128) (n % 128)) := by
  simp only [dwarfwrite_AppendSleb128.l0]
  rw [and64_i64, i64_and127]
  have e1 : n % 128 % 256 = n % 128 := by omega
  have e2 : n / 64 % 2 * 64 % 256 = n / 64 % 2 * 64 := by omega
  rw [e1, e2]
  by_cases h1 : n / 128 = -1
  · rw [if_pos h1]
    by_cases h2 : n / 64 % 2 * 64 = 0
    · rw [if_pos h2, if_neg (by omega), show sEnd (n / 128) (n % 128) = false by rw [← Bool.not_eq_true, sEnd_iff]; omega]
      rfl
    · rw [if_neg h2, show sEnd (n / 128) (n % 128) = true by rw [sEnd_iff]; omega]
      rfl
  · rw [if_neg h1]
    by_cases h2 : n / 128 = 0
    · rw [if_pos h2]
      by_cases h3 : n / 64 % 2 * 64 = 0
      · rw [show sEnd (n / 128) (n % 128) = true by rw [sEnd_iff]; omega, h3]
        rfl
      · rw [show sEnd (n / 128) (n % 128) = false by rw [← Bool.not_eq_true, sEnd_iff]; omega, bne_iff_ne.mpr h3]
        rfl
    · rw [if_neg h2, show sEnd (n / 128) (n % 128) = false by rw [← Bool.not_eq_true, sEnd_iff]; omega]
      rfl

theorem sleb_l0 (m : Nat) : ∀ (n : Int), n.natAbs = m → ∀ (k : Nat) (x0 : List Int), 2 * (sb n).length ≤ k → x0.length + (sb n).length ≤ 140737488355328 → dwarfwrite_AppendSleb128.l0 k x0 n = some (x0 ++ sb n) := by
  induction m using Nat.strongRecOn with
  | _ m ih =>
    intro n hm k x0 hk hx
    have hp := sb_length_pos n
    obtain ⟨k, rfl⟩ : ∃ m, k = m + 1 + 1 := ⟨k - 2, by omega⟩
    rw [sleb_step]
    by_cases he : sEnd (n / 128) (n % 128) = true
    · rw [he, Bool.not_true, sleb_j1_last k x0 _ _ (by omega) (by omega) (by omega), sb_small he]
    · have h' := he
      rw [sEnd_iff] at h'
      rw [sb_big he, List.length_cons] at hk hx
      rw [Bool.not_eq_true] at he
      rw [he, Bool.not_false, sleb_j1_more k x0 _ _ (by omega) (by omega) (by omega), ih (n / 128).natAbs (by omega) (n / 128) rfl k _ (by omega) (by simp; omega), sb_big (n := n) (by rw [he]; decide)]
      simp

theorem carried_l0 (rest : List Int) : ∀ (k : Nat) (done : List Int), rest ≠ [] → rest.length ≤ k → done.length + rest.length < 140737488355329 → spec_carried.l0 k (done ++ rest) (done.length : Int) = some (done ++ carr rest) := by
  induction rest with
  | nil => intro k done h; exact absurd rfl h
  | cons x xs ih =>
    intro k done _ hk hl
    simp only [List.length_cons] at hk hl
    obtain ⟨k, rfl⟩ : ∃ m, k = m + 1 := ⟨k - 1, by omega⟩
    simp only [spec_carried.l0]
    have hw : wrap64 ((done.length : Int) + 1) = (done.length : Int) + 1 := by unfold wrap64; omega
    rw [hw]
    cases xs with
    | nil => rw [if_neg (by simp)]; rfl
    | cons y ys =>
      rw [if_pos (by simp; omega), if_pos (by omega), if_pos (by simp; omega)]
      have e1 : rd (done ++ x :: y :: ys) (done.length : Int) = x := by simp [rd]
      have e2 : (done ++ x :: y :: ys).set ((done.length : Int)).toNat (Go.bits .or .u8 x 128) = (done ++ [Go.bits .or .u8 x 128]) ++ y :: ys := by simp
      rw [e1, e2, show (done.length : Int) + 1 = ((done ++ [Go.bits .or .u8 x 128]).length : Int) by simp, ih k _ (by simp) (by simpa using hk) (by simp at hl ⊢; omega)]
      simp [carr]

theorem signed_l1 (k : Nat) (x0 : Int) (x5 : List Int) (h : x5 ≠ []) (hk : x5.length < k) (hl : x5.length < 140737488355328) : spec_Signed.l1 k x0 0 x5 = some (carr x5) := by
  obtain ⟨k, rfl⟩ : ∃ m, k = m + 1 := ⟨k - 1, by omega⟩
  simp only [spec_Signed.l1]
  rw [if_neg (by simp)]
  have := carried_l0 x5 k [] h (by omega) (by simp; omega)
  simp only [List.nil_append, List.length_nil] at this
  unfold spec_carried.f
  rw [show (0 : Int) = ((0 : Nat) : Int) from rfl, this]
  simp

theorem signed_step_end (k : Nat) (n last : Int) (x5 : List Int) (he : sEnd n last = true) : spec_Signed.l0 (k + 1) n 0 x5 last = spec_Signed.j1 k n 0 x5 := by
  simp only [spec_Signed.l0]
  rw [sEnd_iff] at he
  rcases he with ⟨rfl, hl⟩ | ⟨rfl, hl⟩
  · rw [if_pos rfl, if_neg (by simp; omega)]
  · rw [if_neg (by decide), if_pos rfl, if_neg (by simp; omega)]

theorem signed_step_more (k : Nat) (n last : Int) (x5 : List Int) (he : ¬ sEnd n last = true) (hl : x5.length < 140737488355328) : spec_Signed.l0 (k + 1) n 0 x5 last = spec_Signed.l0 k (n / 128) 0 (x5 ++ [n % 128]) (n % 128) := by
  have hw : wrap64 (((x5 ++ [n % 128]).length : Int) - 1) = (x5.length : Int) := by simp; unfold wrap64; omega
  have hr : rd (x5 ++ [n % 128]) (x5.length : Int) = n % 128 := by simp [rd]
  have e1 : n % 128 % 256 = n % 128 := by omega
  simp only [spec_Signed.l0]
  rw [i64_and127, e1]
  simp only [Option.bind_some]
  rw [hw, hr, if_pos hl, if_pos (show (0 : Int) ≤ (x5.length : Int) by omega), if_pos (show (x5.length : Int) < ((x5 ++ [n % 128]).length : Int) by simp; omega)]
  rw [sEnd_iff] at he
  by_cases h0 : n = 0
  · rw [if_pos h0, if_pos]
    subst h0
    simp
    omega
  · rw [if_neg h0]
    by_cases h1 : n = -1
    · rw [if_pos h1, if_pos]
      subst h1
      simp
      omega
    · rw [if_neg h1]

theorem sdg_length_le (m : Nat) : ∀ n last : Int, -(64 * 128 ^ m) ≤ n → n < 64 * 128 ^ m → (sdg n last).length ≤ m + 2 := by
  induction m with
  | zero =>
    intro n last h1 h2
    by_cases h : sEnd n last = true
    · rw [sdg_nil h]; simp
    · rw [sdg_cons h, sdg_nil (by rw [sEnd_iff]; omega)]; simp
  | succ m ih =>
    intro n last h1 h2
    by_cases h : sEnd n last = true
    · rw [sdg_nil h]; simp
    · rw [sdg_cons h, List.length_cons]
      have := ih (n / 128) (n % 128) (by rw [Int.pow_succ] at h1; omega) (by rw [Int.pow_succ] at h2; omega)
      omega

theorem signed_l0 (d : Nat) : ∀ (n last : Int), (sdg n last).length = d → ∀ (k : Nat) (x5 : List Int), x5 ≠ [] → d + x5.length + d + 4 ≤ k → x5.length + d < 140737488355328 → spec_Signed.l0 k n 0 x5 last = some (carr (x5 ++ sdg n last)) := by
  induction d with
  | zero =>
    intro n last hd k x5 h hk hl
    by_cases he : sEnd n last = true
    · obtain ⟨k, rfl⟩ : ∃ m, k = m + 1 + 1 := ⟨k - 2, by omega⟩
      rw [signed_step_end _ _ _ _ he]
      simp only [spec_Signed.j1]
      rw [signed_l1 k n x5 h (by omega) (by omega), sdg_nil he, List.append_nil]
    · rw [sdg_cons he] at hd; simp at hd
  | succ d ih =>
    intro n last hd k x5 h hk hl
    by_cases he : sEnd n last = true
    · rw [sdg_nil he] at hd; simp at hd
    · obtain ⟨k, rfl⟩ : ∃ m, k = m + 1 := ⟨k - 1, by omega⟩
      rw [sdg_cons he, List.length_cons] at hd
      rw [signed_step_more _ _ _ _ he (by omega), ih (n / 128) (n % 128) (by omega) k _ (by simp) (by simp; omega) (by simp; omega), sdg_cons he]
      simp

theorem signed_f (n : Int) (k : Nat) (hk : 40 ≤ k) (h1 : -9223372036854775808 ≤ n) (h2 : n < 9223372036854775808) : spec_Signed.f k n 0 = some (sb n) := by
  unfold spec_Signed.f
  rw [i64_and127, show n % 128 % 256 = n % 128 by omega]
  simp only [Option.bind_some]
  have e8 : (64 : Int) * 128 ^ 8 = 4611686018427387904 := by decide
  have hd := sdg_length_le 8 (n / 128) (n % 128) (by omega) (by omega)
  rw [if_pos (by simp), show rd [n % 128] 0 = n % 128 from rfl, signed_l0 _ (n / 128) (n % 128) rfl k [n % 128] (by simp) (by simp; omega) (by simp; omega)]
  rw [← carr_sdg _ n rfl]
  rfl

theorem FnAppendSignedIs : laws_FnAppendSignedIs.Pure := by
  intro l0 a1 h1 _ _ hw
  have ha := wf_i64 hw
  refine ⟨40, ?_⟩
  unfold laws_FnAppendSignedIs.f
  by_cases c1 : (l0.length : Int) > 2147483647
  · rw [if_pos c1]
  rw [if_neg c1]
  by_cases c2 : (l0.length : Int) > 65536
  · rw [if_pos c2]
  rw [if_neg c2]
  have hu := sb_length_10 a1 ha.1 ha.2
  unfold impl_AppendSigned.f impl_copied.f
  rw [if_pos (by omega)]
  simp only [Option.bind_some]
  unfold dwarfwrite_AppendSleb128.f
  rw [sleb_l0 _ a1 rfl 40 l0 (by omega) (by omega)]
  simp only [Option.bind_some, List.nil_append, List.length_nil]
  rw [if_pos (by omega), signed_f a1 40 (by omega) ha.1 ha.2]
  simp only [Option.bind_some]
  rw [if_pos (by omega)]
  simp [laws_sameBytes.f]

end Go.Proofs.Ytkgkdppjopilmaa.Pure
