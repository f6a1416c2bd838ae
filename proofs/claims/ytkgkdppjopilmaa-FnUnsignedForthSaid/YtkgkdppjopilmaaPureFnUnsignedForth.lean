/- A number that was read has no more bytes than it was read from when it is written. No conditions beyond the statement's own. -/
import Derived.Test.YtkgkdppjopilmaaPNumx3
import Derived.Test.YtkgkdppjopilmaaPureFnUnsignedBack
import Derived.Test.YtkgkdppjopilmaaGiven1
import Derived.Test.YtkgkdppjopilmaaDigits
namespace Go.Proofs.Ytkgkdppjopilmaa.Pure
open Go.RowKit Go.Proofs.Ytkgkdppjopilmaa.PNum Go.Proofs.YtkgkdppjopilmaaW.PrintWords Go.Proofs.YtkgkdppjopilmaaW.PrintLast Go.Proofs.YtkgkdppjopilmaaW.PrintMore Go.Proofs.Ytkgkdppjopilmaa.Leb Go.Proofs.Ytkgkdppjopilmaa.Given Go.Proofs.Ytkgkdppjopilmaa.Buf

theorem FnUnsignedForth : laws_FnUnsignedForth.Pure := by
  intro l h1 _ hw
  have hb : Bytes l := fun b hb => wf_u8 (hw b hb)
  refine ⟨40, ?_⟩
  unfold laws_FnUnsignedForth.f
  by_cases c1 : (l.length : Int) > 2147483647
  · rw [if_pos c1]
  rw [if_neg c1]
  by_cases c2 : (l.length : Int) > 65536
  · rw [if_pos c2]
  have e129 : unsignedOf [129, 1] = (129, 2, true) := by decide
  have hb2 : Bytes [129, 1] := by intro b hb; simp at hb; omega
  rw [if_neg c2, impl_Unsigned_f2 l (by omega) hb]
  simp only [Option.bind_some]
  rw [impl_Unsigned_f2 [129, 1] (by simp) hb2, e129]
  simp only [Option.bind_some]
  rw [if_pos trivial, if_pos trivial, if_pos trivial]
  unfold unsignedOf
  cases hu : uread l with
  | none => rfl
  | some p =>
    obtain ⟨v, n⟩ := p
    simp only
    rw [if_pos trivial]
    by_cases h9 : (n : Int) > 9
    · rw [if_pos h9]
    · rw [if_neg h9, impl_AppendUnsigned_f _ (Nat.mod_lt _ (by decide))]
      have hn := uread_count hu
      have hv := uread_lt hb hu
      have hp : (128 : Nat) ^ n ≤ 128 ^ 9 := Nat.pow_le_pow_right (by decide) (by omega)
      have h9' : (128 : Nat) ^ 9 = 9223372036854775808 := rfl
      have hm : v % 18446744073709551616 = v := Nat.mod_eq_of_lt (by omega)
      have := ub_length_le (n - 1) v (by rw [show n - 1 + 1 = n by omega]; exact hv)
      simp only [Option.bind_some, hm]
      rw [decide_eq_true (by omega)]

end Go.Proofs.Ytkgkdppjopilmaa.Pure
