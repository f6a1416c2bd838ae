/- What the writer of unsigned LEB128 appends is what the reference writes, for every list of bytes and every number. No conditions. -/
import Derived.Test.YtkgkdppjopilmaaPFnAppendUnsignedIsx1
import Derived.Test.YtkgkdppjopilmaaLeb
namespace Go.Proofs.Ytkgkdppjopilmaa.Pure
open Go.RowKit Go.Proofs.Ytkgkdppjopilmaa.PFnAppendUnsignedIs Go.Proofs.YtkgkdppjopilmaaW.PrintWords Go.Proofs.YtkgkdppjopilmaaW.PrintLast Go.Proofs.Ytkgkdppjopilmaa.Leb Go.Proofs.Ytkgkdppjopilmaa.Given

theorem uleb_l0 (n : Nat) : ∀ (k : Nat) (x0 : List Int), (ub n).length ≤ k → n < 18446744073709551616 → x0.length + (ub n).length ≤ 140737488355328 → dwarfwrite_AppendUleb128.l0 k x0 (n : Int) = some (x0 ++ ub n) := by
  induction n using Nat.strongRecOn with
  | _ n ih =>
    intro k x0 hk hn hx
    have hp := ub_length_pos n
    obtain ⟨k, rfl⟩ : ∃ m, k = m + 1 := ⟨k - 1, by omega⟩
    simp only [dwarfwrite_AppendUleb128.l0]
    have hd : (n : Int) / 128 = ((n / 128 : Nat) : Int) := by omega
    have h127 := and127_u64 n hn
    by_cases hs : n < 128
    · have e : ((n % 128 : Nat) : Int) % 256 = (n : Int) := by omega
      rw [if_pos (by omega), if_pos (by omega), h127, e, and128_u8 n (by omega), show n / 128 % 2 * 128 = 0 by omega]
      simp [ub_small hs]
    · have e : ((n % 128 : Nat) : Int) % 256 = ((n % 128 : Nat) : Int) := by omega
      rw [ub_big hs, List.length_cons] at hk hx
      rw [if_neg (by omega), if_pos (by omega), h127, e, or128_u8 _ (Nat.mod_lt _ (by decide)), and128_u8 _ (by omega)]
      simp only [Option.bind_some]
      rw [if_neg (by omega), hd, ih (n / 128) (by omega) k _ (by omega) (by omega) (by simp; omega), ub_big hs]
      simp

theorem carried_l0 (rest : List Int) : ∀ (k : Nat) (done : List Int), rest ≠ [] → rest.length ≤ k → done.length + rest.length < 140737488355329 → spec_carried.l0 k (done ++ rest) (done.length : Int) = some (done ++ carr rest) := by
  induction rest with
  | nil => intro k done h; exact absurd rfl h
  | cons x xs ih =>
    intro k done _ hk hl
    simp only [List.length_cons] at hk hl
    obtain ⟨k, rfl⟩ : ∃ m, k = m + 1 := ⟨k - 1, by omega⟩
    simp only [spec_carried.l0]
    have hw : wrap64 ((done.length : Int) + 1) = (done.length : Int) + 1 := by unfold wrap64; omega
    rw [hw]
    cases xs with
    | nil => rw [if_neg (by simp)]; rfl
    | cons y ys =>
      rw [if_pos (by simp; omega), if_pos (by omega), if_pos (by simp; omega)]
      have e1 : rd (done ++ x :: y :: ys) (done.length : Int) = x := by simp [rd]
      have e2 : (done ++ x :: y :: ys).set ((done.length : Int)).toNat (Go.bits .or .u8 x 128) = (done ++ [Go.bits .or .u8 x 128]) ++ y :: ys := by simp
      rw [e1, e2, show (done.length : Int) + 1 = ((done ++ [Go.bits .or .u8 x 128]).length : Int) by simp, ih k _ (by simp) (by simpa using hk) (by simp at hl ⊢; omega)]
      simp [carr]

theorem unsigned_l1 (pad : Nat) : ∀ (k : Nat) (x5 : List Int), x5 ≠ [] → pad + x5.length + pad + 1 ≤ k → x5.length + pad < 140737488355328 → spec_Unsigned.l1 k (pad : Int) x5 = some (carr (x5 ++ List.replicate pad 0)) := by
  induction pad with
  | zero =>
    intro k x5 h hk hl
    obtain ⟨k, rfl⟩ : ∃ m, k = m + 1 := ⟨k - 1, by omega⟩
    simp only [spec_Unsigned.l1]
    rw [if_neg (by simp)]
    have := carried_l0 x5 k [] h (by omega) (by simp; omega)
    simp only [List.nil_append, List.length_nil] at this
    unfold spec_carried.f
    rw [show (0 : Int) = ((0 : Nat) : Int) from rfl, this]
    simp
  | succ pad ih =>
    intro k x5 h hk hl
    obtain ⟨k, rfl⟩ : ∃ m, k = m + 1 := ⟨k - 1, by omega⟩
    simp only [spec_Unsigned.l1]
    rw [if_pos (by omega), if_pos (by omega), show wrap64 (((pad + 1 : Nat) : Int) - 1) = (pad : Int) by unfold wrap64; omega, ih k _ (by simp) (by simp; omega) (by simp; omega), List.replicate_succ]
    simp

theorem unsigned_l0 (n : Nat) : ∀ (k : Nat) (x5 : List Int) (pad : Nat), x5 ≠ [] → (dgs n).length + pad + x5.length + (dgs n).length + pad + 2 ≤ k → n < 18446744073709551616 → x5.length + (dgs n).length + pad < 140737488355328 → spec_Unsigned.l0 k (n : Int) (pad : Int) x5 = some (carr (x5 ++ dgs n ++ List.replicate pad 0)) := by
  induction n using Nat.strongRecOn with
  | _ n ih =>
    intro k x5 pad h hk hn hl
    obtain ⟨k, rfl⟩ : ∃ m, k = m + 1 := ⟨k - 1, by omega⟩
    simp only [spec_Unsigned.l0]
    by_cases h0 : n = 0
    · subst h0
      rw [dgs_zero] at hk hl ⊢
      simp only [List.length_nil] at hk hl
      rw [if_neg (by simp), unsigned_l1 pad k x5 h (by omega) (by omega)]
      simp
    · rw [dgs_pos h0] at hk hl ⊢
      simp only [List.length_cons] at hk hl
      have e1 : IntKind.u64.wrap (Int.tdiv (n : Int) 128) = ((n / 128 : Nat) : Int) := by
        rw [IntKind.wrap_u64, Int.tdiv_eq_ediv_of_nonneg (by omega)]
        omega
      have e2 : (Int.tmod (n : Int) 128) % 256 = ((n % 128 : Nat) : Int) := by
        rw [Int.tmod_eq_emod_of_nonneg (by omega)]
        omega
      rw [if_pos (by omega), if_pos (by omega), e1, e2, ih (n / 128) (by omega) k _ pad (by simp) (by simp; omega) (by omega) (by simp; omega)]
      simp

theorem dgs_length_le (m : Nat) : ∀ n, n < 128 ^ m → (dgs n).length ≤ m := by
  induction m with
  | zero => intro n h; rw [show n = 0 by simpa using h, dgs_zero]; simp
  | succ m ih =>
    intro n h
    by_cases h0 : n = 0
    · rw [h0, dgs_zero]; simp
    · rw [dgs_pos h0, List.length_cons]
      have := ih (n / 128) (by rw [Nat.div_lt_iff_lt_mul (by decide)]; rw [Nat.pow_succ] at h; exact h)
      omega

theorem unsigned_f (n : Nat) (k : Nat) (hk : 40 ≤ k) (hn : n < 18446744073709551616) : spec_Unsigned.f k (n : Int) 0 = some (ub n) := by
  unfold spec_Unsigned.f
  have e1 : IntKind.u64.wrap (Int.tdiv (n : Int) 128) = ((n / 128 : Nat) : Int) := by
    rw [IntKind.wrap_u64, Int.tdiv_eq_ediv_of_nonneg (by omega)]
    omega
  have e2 : (Int.tmod (n : Int) 128) % 256 = ((n % 128 : Nat) : Int) := by
    rw [Int.tmod_eq_emod_of_nonneg (by omega)]
    omega
  have hd := dgs_length_le 9 (n / 128) (by rw [Nat.div_lt_iff_lt_mul (by decide)]; exact Nat.lt_of_lt_of_le hn (by decide))
  have := unsigned_l0 (n / 128) k [((n % 128 : Nat) : Int)] 0 (by simp) (by simp; omega) (by omega) (by simp; omega)
  rw [e1, e2, show (0 : Int) = ((0 : Nat) : Int) from rfl, this]
  simp [← carr_dgs n]

theorem FnAppendUnsignedIs : laws_FnAppendUnsignedIs.Pure := by
  intro l0 a1 h1 _ _ hw
  have ha := wf_u64 hw
  obtain ⟨n, rfl⟩ := Int.eq_ofNat_of_zero_le ha.1
  refine ⟨40, ?_⟩
  unfold laws_FnAppendUnsignedIs.f
  by_cases c1 : (l0.length : Int) > 2147483647
  · rw [if_pos c1]
  rw [if_neg c1]
  by_cases c2 : (l0.length : Int) > 65536
  · rw [if_pos c2]
  rw [if_neg c2]
  have hn : n < 18446744073709551616 := by omega
  have hu := ub_length_10 n hn
  unfold impl_AppendUnsigned.f impl_copied.f
  rw [if_pos (by omega)]
  simp only [Option.bind_some]
  unfold dwarfwrite_AppendUleb128.f
  rw [uleb_l0 n 40 l0 (by omega) hn (by omega)]
  simp only [Option.bind_some, List.nil_append, List.length_nil]
  rw [if_pos (by omega), unsigned_f n 40 (by omega) hn]
  simp only [Option.bind_some]
  rw [if_pos (by omega)]
  simp [laws_sameBytes.f]

end Go.Proofs.Ytkgkdppjopilmaa.Pure
