/- Numbers with bytes more than they need are read as these numbers. No conditions beyond the statement's own. -/
import Derived.Test.YtkgkdppjopilmaaPNumx5
import Derived.Test.YtkgkdppjopilmaaGiven1
import Derived.Test.YtkgkdppjopilmaaDigits
namespace Go.Proofs.Ytkgkdppjopilmaa.Pure
open Go.RowKit Go.Proofs.Ytkgkdppjopilmaa.PNum Go.Proofs.YtkgkdppjopilmaaW.PrintWords Go.Proofs.YtkgkdppjopilmaaW.PrintLast Go.Proofs.YtkgkdppjopilmaaW.PrintMore Go.Proofs.Ytkgkdppjopilmaa.Leb Go.Proofs.Ytkgkdppjopilmaa.Given Go.Proofs.Ytkgkdppjopilmaa.Buf

theorem carried_l0 (rest : List Int) : ∀ (k : Nat) (done : List Int), rest ≠ [] → rest.length ≤ k → done.length + rest.length < 140737488355329 → spec_carried.l0 k (done ++ rest) (done.length : Int) = some (done ++ carr rest) := by
  induction rest with
  | nil => intro k done h; exact absurd rfl h
  | cons x xs ih =>
    intro k done _ hk hl
    simp only [List.length_cons] at hk hl
    obtain ⟨k, rfl⟩ : ∃ m, k = m + 1 := ⟨k - 1, by omega⟩
    simp only [spec_carried.l0]
    have hw : wrap64 ((done.length : Int) + 1) = (done.length : Int) + 1 := by unfold wrap64; omega
    rw [hw]
    cases xs with
    | nil => rw [if_neg (by simp)]; rfl
    | cons y ys =>
      rw [if_pos (by simp; omega), if_pos (by omega), if_pos (by simp; omega)]
      have e1 : rd (done ++ x :: y :: ys) (done.length : Int) = x := by simp [rd]
      have e2 : (done ++ x :: y :: ys).set ((done.length : Int)).toNat (Go.bits .or .u8 x 128) = (done ++ [Go.bits .or .u8 x 128]) ++ y :: ys := by simp
      rw [e1, e2, show (done.length : Int) + 1 = ((done ++ [Go.bits .or .u8 x 128]).length : Int) by simp, ih k _ (by simp) (by simpa using hk) (by simp at hl ⊢; omega)]
      simp [carr]

theorem unsigned_l1 (pad : Nat) : ∀ (k : Nat) (x5 : List Int), x5 ≠ [] → pad + x5.length + pad + 1 ≤ k → x5.length + pad < 140737488355328 → spec_Unsigned.l1 k (pad : Int) x5 = some (carr (x5 ++ List.replicate pad 0)) := by
  induction pad with
  | zero =>
    intro k x5 h hk hl
    obtain ⟨k, rfl⟩ : ∃ m, k = m + 1 := ⟨k - 1, by omega⟩
    simp only [spec_Unsigned.l1]
    rw [if_neg (by simp)]
    have := carried_l0 x5 k [] h (by omega) (by simp; omega)
    simp only [List.nil_append, List.length_nil] at this
    unfold spec_carried.f
    rw [show (0 : Int) = ((0 : Nat) : Int) from rfl, this]
    simp
  | succ pad ih =>
    intro k x5 h hk hl
    obtain ⟨k, rfl⟩ : ∃ m, k = m + 1 := ⟨k - 1, by omega⟩
    simp only [spec_Unsigned.l1]
    rw [if_pos (by omega), if_pos (by omega), show wrap64 (((pad + 1 : Nat) : Int) - 1) = (pad : Int) by unfold wrap64; omega, ih k _ (by simp) (by simp; omega) (by simp; omega), List.replicate_succ]
    simp

theorem unsigned_l0 (n : Nat) : ∀ (k : Nat) (x5 : List Int) (pad : Nat), x5 ≠ [] → (dgs n).length + pad + x5.length + (dgs n).length + pad + 2 ≤ k → n < 18446744073709551616 → x5.length + (dgs n).length + pad < 140737488355328 → spec_Unsigned.l0 k (n : Int) (pad : Int) x5 = some (carr (x5 ++ dgs n ++ List.replicate pad 0)) := by
  induction n using Nat.strongRecOn with
  | _ n ih =>
    intro k x5 pad h hk hn hl
    obtain ⟨k, rfl⟩ : ∃ m, k = m + 1 := ⟨k - 1, by omega⟩
    simp only [spec_Unsigned.l0]
    by_cases h0 : n = 0
    · subst h0
      rw [dgs_zero] at hk hl ⊢
      simp only [List.length_nil] at hk hl
      rw [if_neg (by simp), unsigned_l1 pad k x5 h (by omega) (by omega)]
      simp
    · rw [dgs_pos h0] at hk hl ⊢
      simp only [List.length_cons] at hk hl
      have e1 : IntKind.u64.wrap (Int.tdiv (n : Int) 128) = ((n / 128 : Nat) : Int) := by
        rw [IntKind.wrap_u64, Int.tdiv_eq_ediv_of_nonneg (by omega)]
        omega
      have e2 : (Int.tmod (n : Int) 128) % 256 = ((n % 128 : Nat) : Int) := by
        rw [Int.tmod_eq_emod_of_nonneg (by omega)]
        omega
      rw [if_pos (by omega), if_pos (by omega), e1, e2, ih (n / 128) (by omega) k _ pad (by simp) (by simp; omega) (by omega) (by simp; omega)]
      simp

theorem dgs_length_le (m : Nat) : ∀ n, n < 128 ^ m → (dgs n).length ≤ m := by
  induction m with
  | zero => intro n h; rw [show n = 0 by simpa using h, dgs_zero]; simp
  | succ m ih =>
    intro n h
    by_cases h0 : n = 0
    · rw [h0, dgs_zero]; simp
    · rw [dgs_pos h0, List.length_cons]
      have := ih (n / 128) (by rw [Nat.div_lt_iff_lt_mul (by decide)]; rw [Nat.pow_succ] at h; exact h)
      omega

theorem sdg_length_le (m : Nat) : ∀ n last : Int, -(64 * 128 ^ m) ≤ n → n < 64 * 128 ^ m → (sdg n last).length ≤ m + 2 := by
  induction m with
  | zero =>
    intro n last h1 h2
    by_cases h : sEnd n last = true
    · rw [sdg_nil h]; simp
    · rw [sdg_cons h, sdg_nil (by rw [sEnd_iff]; omega)]; simp
  | succ m ih =>
    intro n last h1 h2
    by_cases h : sEnd n last = true
    · rw [sdg_nil h]; simp
    · rw [sdg_cons h, List.length_cons]
      have := ih (n / 128) (n % 128) (by rw [Int.pow_succ] at h1; omega) (by rw [Int.pow_succ] at h2; omega)
      omega

theorem psigned_l1 (x0 : Int) (pad : Nat) : ∀ (k : Nat) (x5 : List Int), x5 ≠ [] → pad + x5.length + pad + 1 ≤ k → x5.length + pad < 140737488355328 → spec_Signed.l1 k x0 (pad : Int) x5 = some (carr (x5 ++ List.replicate pad (x0 % 128))) := by
  induction pad with
  | zero =>
    intro k x5 h hk hl
    obtain ⟨k, rfl⟩ : ∃ m, k = m + 1 := ⟨k - 1, by omega⟩
    simp only [spec_Signed.l1]
    rw [if_neg (by simp)]
    have := carried_l0 x5 k [] h (by omega) (by simp; omega)
    simp only [List.nil_append, List.length_nil] at this
    unfold spec_carried.f
    rw [show (0 : Int) = ((0 : Nat) : Int) from rfl, this]
    simp
  | succ pad ih =>
    intro k x5 h hk hl
    obtain ⟨k, rfl⟩ : ∃ m, k = m + 1 := ⟨k - 1, by omega⟩
    simp only [spec_Signed.l1]
    rw [if_pos (by omega), if_pos (by omega), i64_and127, show x0 % 128 % 256 = x0 % 128 by omega, show wrap64 (((pad + 1 : Nat) : Int) - 1) = (pad : Int) by unfold wrap64; omega, ih k _ (by simp) (by simp; omega) (by simp; omega), List.replicate_succ]
    simp

theorem psigned_step_end (k : Nat) (n last pad : Int) (x5 : List Int) (he : sEnd n last = true) : spec_Signed.l0 (k + 1) n pad x5 last = spec_Signed.j1 k n pad x5 := by
  simp only [spec_Signed.l0]
  rw [sEnd_iff] at he
  rcases he with ⟨rfl, hl⟩ | ⟨rfl, hl⟩
  · rw [if_pos rfl, if_neg (by simp; omega)]
  · rw [if_neg (by decide), if_pos rfl, if_neg (by simp; omega)]

theorem psigned_step_more (k : Nat) (n last pad : Int) (x5 : List Int) (he : ¬ sEnd n last = true) (hl : x5.length < 140737488355328) : spec_Signed.l0 (k + 1) n pad x5 last = spec_Signed.l0 k (n / 128) pad (x5 ++ [n % 128]) (n % 128) := by
  have hw : wrap64 (((x5 ++ [n % 128]).length : Int) - 1) = (x5.length : Int) := by simp; unfold wrap64; omega
  have hr : rd (x5 ++ [n % 128]) (x5.length : Int) = n % 128 := by simp [rd]
  have e1 : n % 128 % 256 = n % 128 := by omega
  simp only [spec_Signed.l0]
  rw [i64_and127, e1]
  simp only [Option.bind_some]
  rw [hw, hr, if_pos hl, if_pos (show (0 : Int) ≤ (x5.length : Int) by omega), if_pos (show (x5.length : Int) < ((x5 ++ [n % 128]).length : Int) by simp; omega)]
  rw [sEnd_iff] at he
  by_cases h0 : n = 0
  · rw [if_pos h0, if_pos]
    subst h0
    simp
    omega
  · rw [if_neg h0]
    by_cases h1 : n = -1
    · rw [if_pos h1, if_pos]
      subst h1
      simp
      omega
    · rw [if_neg h1]

theorem psigned_l0 (d : Nat) (pad : Nat) : ∀ (n last : Int), (sdg n last).length = d → ∀ (k : Nat) (x5 : List Int), x5 ≠ [] → d + x5.length + d + pad + pad + 4 ≤ k → x5.length + d + pad < 140737488355328 → spec_Signed.l0 k n (pad : Int) x5 last = some (carr (x5 ++ (sdg n last ++ List.replicate pad (fill n)))) := by
  induction d with
  | zero =>
    intro n last hd k x5 h hk hl
    by_cases he : sEnd n last = true
    · obtain ⟨k, rfl⟩ : ∃ m, k = m + 1 + 1 := ⟨k - 2, by omega⟩
      have hf : n % 128 = fill n := by
        rw [sEnd_iff] at he
        rcases he with ⟨rfl, _⟩ | ⟨rfl, _⟩ <;> rfl
      rw [psigned_step_end _ _ _ _ _ he]
      simp only [spec_Signed.j1]
      rw [psigned_l1 n pad k x5 h (by omega) (by omega), sdg_nil he, List.nil_append, hf]
    · rw [sdg_cons he] at hd; simp at hd
  | succ d ih =>
    intro n last hd k x5 h hk hl
    by_cases he : sEnd n last = true
    · rw [sdg_nil he] at hd; simp at hd
    · obtain ⟨k, rfl⟩ : ∃ m, k = m + 1 := ⟨k - 1, by omega⟩
      have e : fill n = fill (n / 128) := by unfold fill; by_cases h : n < 0 <;> simp [h] <;> omega
      rw [sdg_cons he, List.length_cons] at hd
      rw [psigned_step_more _ _ _ _ _ he (by omega), ih (n / 128) (n % 128) (by omega) k _ (by simp) (by simp; omega) (by simp; omega), sdg_cons he, e]
      simp

theorem psigned_f (n : Int) (pad : Nat) (hp : pad ≤ 3) (h1 : -281474976710656 ≤ n) (h2 : n ≤ 281474976710656) : (sdig n pad).length ≤ 14 ∧ ∀ k, 60 ≤ k → spec_Signed.f k n (pad : Int) = some (carr (sdig n pad)) := by
  have e8 : (64 : Int) * 128 ^ 8 = 4611686018427387904 := by decide
  have hd := sdg_length_le 8 (n / 128) (n % 128) (by omega) (by omega)
  refine ⟨by simp [sdig]; omega, fun k hk => ?_⟩
  unfold spec_Signed.f
  rw [i64_and127, show n % 128 % 256 = n % 128 by omega]
  simp only [Option.bind_some]
  have e : fill n = fill (n / 128) := by unfold fill; by_cases h : n < 0 <;> simp [h] <;> omega
  rw [if_pos (by simp), show rd [n % 128] 0 = n % 128 from rfl, psigned_l0 _ pad (n / 128) (n % 128) rfl k [n % 128] (by simp) (by simp; omega) (by simp; omega), sdig, e]
  rfl

theorem punsigned_f (n pad : Nat) (hp : pad ≤ 3) (h2 : n < 18446744073709551616) : (udig n pad).length ≤ 14 ∧ ∀ k, 60 ≤ k → spec_Unsigned.f k (n : Int) (pad : Int) = some (carr (udig n pad)) := by
  have hd := dgs_length_le 9 (n / 128) (by have : (128 : Nat) ^ 9 = 9223372036854775808 := rfl
                                           omega)
  refine ⟨by simp [udig]; omega, fun k hk => ?_⟩
  unfold spec_Unsigned.f
  have e1 : IntKind.u64.wrap (Int.tdiv (n : Int) 128) = ((n / 128 : Nat) : Int) := by
    rw [IntKind.wrap_u64, Int.tdiv_eq_ediv_of_nonneg (by omega)]
    omega
  have e2 : (Int.tmod (n : Int) 128) % 256 = ((n % 128 : Nat) : Int) := by
    rw [Int.tmod_eq_emod_of_nonneg (by omega)]
    omega
  rw [e1, e2, unsigned_l0 (n / 128) k _ pad (by simp) (by simp; omega) (by omega) (by simp; omega), udig]
  simp

theorem p_Signed_f (l : List Int) (hl : l.length < 2147483648) (hb : Bytes l) : impl_Signed.f l = some (signedOf l) := by
  unfold impl_Signed.f impl_copied.f dwarf_Signed.f
  rw [if_pos (by omega)]
  simp only [Option.bind_some]
  rw [if_pos ⟨by omega, ok_of_bytes hb⟩]
  rfl
theorem p_Unsigned_f (l : List Int) (hl : l.length < 2147483648) (hb : Bytes l) : impl_Unsigned.f l = some (unsignedOf l) := by
  unfold impl_Unsigned.f impl_copied.f dwarf_Unsigned.f
  rw [if_pos (by omega)]
  simp only [Option.bind_some]
  rw [if_pos ⟨by omega, ok_of_bytes hb⟩]
  rfl

theorem FnPadded : laws_FnPadded.Pure := by
  intro a p ha hp
  have hA := wf_i64 ha
  refine ⟨64, ?_⟩
  have done : laws_FnPadded.j0 64 a p true = some true := by simp only [laws_FnPadded.j0]; rw [if_pos trivial]
  unfold laws_FnPadded.f
  by_cases c1 : a < -281474976710656
  · rw [if_pos c1, done]
  by_cases c2 : a > 281474976710656
  · rw [if_neg c1, if_pos c2, done]
  by_cases c3 : p < 0
  · rw [if_neg c1, if_neg c2, if_pos c3, done]
  rw [if_neg c1, if_neg c2, if_neg c3]
  by_cases c4 : p > 3
  · rw [decide_eq_true c4, done]
  rw [decide_eq_false c4]
  obtain ⟨m, rfl⟩ := Int.eq_ofNat_of_zero_le (by omega : 0 ≤ p)
  obtain ⟨hl1, hf1⟩ := psigned_f a m (by omega) (by omega) (by omega)
  have hw : IntKind.u64.wrap (mx a 0) = ((mx a 0).toNat : Int) := by unfold mx; rw [IntKind.wrap_u64]; split <;> omega
  obtain ⟨hl2, hf2⟩ := punsigned_f (mx a 0).toNat m (by omega) (by unfold mx; split <;> omega)
  have r1 := uread_carr (sdig a m) [] (by simp [sdig]) (sdig_dig a m)
  have r2 := uread_carr (udig (mx a 0).toNat m) [] (by simp [udig]) (udig_dig _ m)
  rw [List.append_nil] at r1 r2
  have l1 := carr_length (sdig a m)
  have l2 := carr_length (udig (mx a 0).toNat m)
  simp only [laws_FnPadded.j0]
  rw [if_neg (by decide), hf1 63 (by decide)]
  simp only [Option.bind_some]
  rw [p_Signed_f _ (by omega) (carr_bytes _ (sdig_dig a m))]
  simp only [Option.bind_some, signedOf, r1]
  rw [if_pos trivial, sval_dval _ (by simp [sdig]) (sdig_dig a m), sd_sdig, if_pos (by rw [IntKind.wrap_i64]; omega), l1]
  have hne : (((sdig a m).length : Int) != ((sdig a m).length : Int)) = false := by simp
  rw [hne]
  simp only [laws_FnPadded.j1]
  rw [if_neg (by decide), hw, hf2 62 (by decide)]
  simp only [Option.bind_some]
  rw [p_Unsigned_f _ (by omega) (carr_bytes _ (udig_dig _ m))]
  simp only [Option.bind_some, unsignedOf, r2, dval_udig]
  have hm : (mx a 0).toNat % 18446744073709551616 = (mx a 0).toNat := Nat.mod_eq_of_lt (by unfold mx; split <;> omega)
  rw [if_pos trivial, hm, if_pos rfl, l2]
  simp

end Go.Proofs.Ytkgkdppjopilmaa.Pure
