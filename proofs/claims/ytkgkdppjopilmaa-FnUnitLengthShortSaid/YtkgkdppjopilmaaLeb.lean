import Derived.Laws.BitsAllLaws
import Derived.Laws.Bits128
import Derived.WalkKit
/- Plain facts on LEB128: the bytes of numbers, no Go in sight. -/
namespace Go.Proofs.Ytkgkdppjopilmaa.Leb
open Go

theorem and127_u64 (n : Nat) (h : n < 18446744073709551616) : Go.bits .and .u64 (n : Int) 127 = ((n % 128 : Nat) : Int) := by
  have := u64_and_nat n 127 h (by decide)
  rw [nat_mask7] at this
  exact this
theorem and127_u8 (n : Nat) (h : n < 256) : Go.bits .and .u8 (n : Int) 127 = ((n % 128 : Nat) : Int) := by
  have := u8_and_nat n 127 h (by decide)
  rw [nat_mask7] at this
  exact this
theorem and128_u8 (n : Nat) (h : n < 256) : Go.bits .and .u8 (n : Int) 128 = ((n / 128 % 2 * 128 : Nat) : Int) := by
  have := u8_and_nat n 128 h (by decide)
  rw [show n &&& 128 = n / 128 % 2 * 128 from nat_bit 7 n] at this
  exact this
theorem or128_u8 (n : Nat) (h : n < 128) : Go.bits .or .u8 (n : Int) 128 = ((n + 128 : Nat) : Int) := by
  rw [u8_or128_right (n : Int) (by omega) (by omega)]
  omega

theorem wf_u64 {a : Int} (h : (Lit.int .u64 a).wf = true) : 0 ≤ a ∧ a < 18446744073709551616 := by
  simp [Lit.wf, IntKind.min, IntKind.max, IntKind.bits, IntKind.signed] at h
  omega
theorem wf_i64 {a : Int} (h : (Lit.int .i64 a).wf = true) : -9223372036854775808 ≤ a ∧ a < 9223372036854775808 := by
  simp [Lit.wf, IntKind.min, IntKind.max, IntKind.bits, IntKind.signed] at h
  omega
theorem wf_u8 {a : Int} (h : (Lit.int .u8 a).wf = true) : 0 ≤ a ∧ a < 256 := by
  simp [Lit.wf, IntKind.min, IntKind.max, IntKind.bits, IntKind.signed] at h
  omega

/-- A number's bytes, as few as can be. -/
def ub (n : Nat) : List Int := if h : n < 128 then [(n : Int)] else ((n % 128 + 128 : Nat) : Int) :: ub (n / 128)
termination_by n
decreasing_by omega

theorem ub_small {n : Nat} (h : n < 128) : ub n = [(n : Int)] := by rw [ub, dif_pos h]
theorem ub_big {n : Nat} (h : ¬ n < 128) : ub n = ((n % 128 + 128 : Nat) : Int) :: ub (n / 128) := by rw [ub, dif_neg h]
theorem ub_length_pos (n : Nat) : 0 < (ub n).length := by
  rw [ub]; split <;> simp
theorem ub_length_le (m : Nat) : ∀ n, n < 128 ^ (m + 1) → (ub n).length ≤ m + 1 := by
  induction m with
  | zero => intro n h; rw [ub_small (by simpa using h)]; simp
  | succ m ih =>
    intro n h
    by_cases hn : n < 128
    · rw [ub_small hn]; simp
    · rw [ub_big hn, List.length_cons]
      have := ih (n / 128) (by rw [Nat.div_lt_iff_lt_mul (by decide)]; rw [Nat.pow_succ] at h; exact h)
      omega
theorem ub_length_10 (n : Nat) (h : n < 18446744073709551616) : (ub n).length ≤ 10 := ub_length_le 9 n (Nat.lt_of_lt_of_le h (by decide))
theorem ub_byte (n : Nat) : ∀ x ∈ ub n, 0 ≤ x ∧ x < 256 := by
  induction n using Nat.strongRecOn with
  | _ n ih =>
    intro x hx
    by_cases hn : n < 128
    · rw [ub_small hn] at hx; simp at hx; omega
    · rw [ub_big hn] at hx
      rcases List.mem_cons.1 hx with rfl | hx
      · omega
      · exact ih (n / 128) (by omega) x hx

/-- The digits behind the first. -/
def dgs (n : Nat) : List Int := if h : n = 0 then [] else ((n % 128 : Nat) : Int) :: dgs (n / 128)
termination_by n
decreasing_by omega
theorem dgs_zero : dgs 0 = [] := by rw [dgs]; simp
theorem dgs_pos {n : Nat} (h : n ≠ 0) : dgs n = ((n % 128 : Nat) : Int) :: dgs (n / 128) := by rw [dgs, dif_neg h]

/-- All but the last with the bit that tells of another. -/
def carr : List Int → List Int
  | [] => []
  | [x] => [x]
  | x :: y :: ys => Go.bits .or .u8 x 128 :: carr (y :: ys)
theorem carr_length : ∀ l, (carr l).length = l.length
  | [] => rfl
  | [_] => rfl
  | x :: y :: ys => by simp [carr, carr_length (y :: ys)]
theorem carr_dgs (n : Nat) : carr (((n % 128 : Nat) : Int) :: dgs (n / 128)) = ub n := by
  induction n using Nat.strongRecOn with
  | _ n ih =>
    by_cases hn : n < 128
    · rw [ub_small hn, show n / 128 = 0 by omega, dgs_zero, Nat.mod_eq_of_lt hn]; rfl
    · have h0 : n / 128 ≠ 0 := by omega
      rw [ub_big hn, ← ih (n / 128) (by omega), dgs_pos h0]
      show Go.bits .or .u8 ((n % 128 : Nat) : Int) 128 :: _ = _
      rw [or128_u8 _ (Nat.mod_lt _ (by decide))]

theorem and64_i64 (n : Int) : Go.bits .and .i64 n 64 = n / 64 % 2 * 64 := by
  have h : (BitVec.ofInt 64 n &&& BitVec.ofInt 64 64).toNat = (BitVec.ofInt 64 n).toNat / 64 % 2 * 64 := by
    rw [BitVec.toNat_and, show (BitVec.ofInt 64 64).toNat = 2 ^ 6 by rfl, nat_bit 6]
  have h2 : ((BitVec.ofInt 64 n).toNat : Int) = n % 18446744073709551616 := by
    rw [BitVec.toNat_ofInt, Int.toNat_of_nonneg (Int.emod_nonneg _ (by decide))]
    rfl
  show IntKind.i64.wrap ((BitVec.ofInt 64 n &&& BitVec.ofInt 64 64).toNat : Int) = _
  rw [h, IntKind.wrap_i64]
  omega

/-- Does a signed number end behind a digit? -/
def sEnd (n last : Int) : Bool := (n == 0 && decide (last < 64)) || (n == -1 && decide (64 ≤ last))
theorem sEnd_iff (n last : Int) : sEnd n last = true ↔ (n = 0 ∧ last < 64) ∨ (n = -1 ∧ 64 ≤ last) := by
  simp [sEnd]

/-- A signed number's bytes, as few as can be. -/
def sb (n : Int) : List Int := if h : sEnd (n / 128) (n % 128) = true then [n % 128] else (n % 128 + 128) :: sb (n / 128)
termination_by n.natAbs
decreasing_by
  rw [sEnd_iff] at h
  omega
theorem sb_small {n : Int} (h : sEnd (n / 128) (n % 128) = true) : sb n = [n % 128] := by rw [sb, dif_pos h]
theorem sb_big {n : Int} (h : ¬ sEnd (n / 128) (n % 128) = true) : sb n = (n % 128 + 128) :: sb (n / 128) := by rw [sb, dif_neg h]
theorem sb_length_pos (n : Int) : 0 < (sb n).length := by
  rw [sb]; split <;> simp
theorem sb_length_le (m : Nat) : ∀ n : Int, -(64 * 128 ^ m) ≤ n → n < 64 * 128 ^ m → (sb n).length ≤ m + 1 := by
  induction m with
  | zero =>
    intro n h1 h2
    rw [sb_small (by rw [sEnd_iff]; omega)]
    simp
  | succ m ih =>
    intro n h1 h2
    by_cases hn : sEnd (n / 128) (n % 128) = true
    · rw [sb_small hn]; simp
    · rw [sb_big hn, List.length_cons]
      have := ih (n / 128) (by rw [Int.pow_succ] at h1; omega) (by rw [Int.pow_succ] at h2; omega)
      omega
theorem sb_length_10 (n : Int) (h1 : -9223372036854775808 ≤ n) (h2 : n < 9223372036854775808) : (sb n).length ≤ 10 :=
  sb_length_le 9 n (by have : (64 : Int) * 128 ^ 9 = 590295810358705651712 := by decide
                       omega) (by have : (64 : Int) * 128 ^ 9 = 590295810358705651712 := by decide
                                  omega)
theorem sb_byte (m : Nat) : ∀ n : Int, n.natAbs = m → ∀ x ∈ sb n, 0 ≤ x ∧ x < 256 := by
  induction m using Nat.strongRecOn with
  | _ m ih =>
    intro n hm x hx
    by_cases hn : sEnd (n / 128) (n % 128) = true
    · rw [sb_small hn] at hx; simp at hx; omega
    · rw [sb_big hn] at hx
      rcases List.mem_cons.1 hx with rfl | hx
      · omega
      · have h' := hn
        rw [sEnd_iff] at h'
        exact ih (n / 128).natAbs (by omega) (n / 128) rfl x hx

/-- A signed number's digits behind the first. -/
def sdg (n last : Int) : List Int := if h : sEnd n last = true then [] else n % 128 :: sdg (n / 128) (n % 128)
termination_by (n.natAbs, if last < 64 then (if n < 0 then 1 else 0) else (if 0 ≤ n then 1 else 0))
decreasing_by
  rw [sEnd_iff] at h
  by_cases h0 : n = 0
  · subst h0
    simp only [Prod.lex_def]
    right
    refine ⟨by decide, ?_⟩
    rw [if_pos (by omega), if_neg (by omega), if_neg (by omega), if_pos (by omega)]
    omega
  · by_cases h1 : n = -1
    · subst h1
      simp only [Prod.lex_def]
      right
      refine ⟨by decide, ?_⟩
      rw [if_neg (by omega), if_neg (by omega), if_pos (by omega), if_pos (by omega)]
      omega
    · simp only [Prod.lex_def]
      left
      omega
theorem sdg_nil {n last : Int} (h : sEnd n last = true) : sdg n last = [] := by rw [sdg, dif_pos h]
theorem sdg_cons {n last : Int} (h : ¬ sEnd n last = true) : sdg n last = n % 128 :: sdg (n / 128) (n % 128) := by rw [sdg, dif_neg h]
theorem or128_int (x : Int) (h0 : 0 ≤ x) (h : x < 128) : Go.bits .or .u8 x 128 = x + 128 := u8_or128_right x h0 h
theorem carr_sdg (m : Nat) : ∀ n : Int, n.natAbs = m → carr (n % 128 :: sdg (n / 128) (n % 128)) = sb n := by
  induction m using Nat.strongRecOn with
  | _ m ih =>
    intro n hm
    by_cases hn : sEnd (n / 128) (n % 128) = true
    · rw [sb_small hn, sdg_nil hn]; rfl
    · have h' := hn
      rw [sEnd_iff] at h'
      rw [sb_big hn, ← ih (n / 128).natAbs (by omega) (n / 128) rfl, sdg_cons hn]
      show Go.bits .or .u8 (n % 128) 128 :: _ = _
      rw [or128_int _ (by omega) (by omega)]
end Go.Proofs.Ytkgkdppjopilmaa.Leb
