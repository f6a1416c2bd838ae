/- Every unsigned number that was written is read, whatever stands behind it. No conditions beyond the statement's own. -/
import Derived.Test.YtkgkdppjopilmaaPNumx3
import Derived.Test.YtkgkdppjopilmaaGiven1
import Derived.Test.YtkgkdppjopilmaaDigits
namespace Go.Proofs.Ytkgkdppjopilmaa.Pure
open Go.RowKit Go.Proofs.Ytkgkdppjopilmaa.PNum Go.Proofs.YtkgkdppjopilmaaW.PrintWords Go.Proofs.YtkgkdppjopilmaaW.PrintLast Go.Proofs.YtkgkdppjopilmaaW.PrintMore Go.Proofs.Ytkgkdppjopilmaa.Leb Go.Proofs.Ytkgkdppjopilmaa.Given Go.Proofs.Ytkgkdppjopilmaa.Buf

theorem impl_Unsigned_f2 (l : List Int) (hl : l.length < 2147483648) (hb : Bytes l) : impl_Unsigned.f l = some (unsignedOf l) := by
  unfold impl_Unsigned.f impl_copied.f dwarf_Unsigned.f
  rw [if_pos (by omega)]
  simp only [Option.bind_some]
  rw [if_pos ⟨by omega, ok_of_bytes hb⟩]
  rfl

theorem uleb_l0 (n : Nat) : ∀ (k : Nat) (x0 : List Int), (ub n).length ≤ k → n < 18446744073709551616 → x0.length + (ub n).length ≤ 140737488355328 → dwarfwrite_AppendUleb128.l0 k x0 (n : Int) = some (x0 ++ ub n) := by
  induction n using Nat.strongRecOn with
  | _ n ih =>
    intro k x0 hk hn hx
    have hp := ub_length_pos n
    obtain ⟨k, rfl⟩ : ∃ m, k = m + 1 := ⟨k - 1, by omega⟩
    simp only [dwarfwrite_AppendUleb128.l0]
    have hd : (n : Int) / 128 = ((n / 128 : Nat) : Int) := by omega
    have h127 := and127_u64 n hn
    by_cases hs : n < 128
    · have e : ((n % 128 : Nat) : Int) % 256 = (n : Int) := by omega
      rw [if_pos (by omega), if_pos (by omega), h127, e, and128_u8 n (by omega), show n / 128 % 2 * 128 = 0 by omega]
      simp [ub_small hs]
    · have e : ((n % 128 : Nat) : Int) % 256 = ((n % 128 : Nat) : Int) := by omega
      rw [ub_big hs, List.length_cons] at hk hx
      rw [if_neg (by omega), if_pos (by omega), h127, e, or128_u8 _ (Nat.mod_lt _ (by decide)), and128_u8 _ (by omega)]
      simp only [Option.bind_some]
      rw [if_neg (by omega), hd, ih (n / 128) (by omega) k _ (by omega) (by omega) (by simp; omega), ub_big hs]
      simp

theorem impl_AppendUnsigned_f (n : Nat) (h : n < 18446744073709551616) : impl_AppendUnsigned.f 40 [] (n : Int) = some (ub n) := by
  have hu := ub_length_10 n h
  unfold impl_AppendUnsigned.f impl_copied.f
  rw [if_pos (by simp)]
  simp only [Option.bind_some]
  unfold dwarfwrite_AppendUleb128.f
  rw [uleb_l0 n 40 [] (by omega) h (by simp; omega)]
  rfl

theorem FnUnsignedBack : laws_FnUnsignedBack.Pure := by
  intro a l ha h1 _ hw
  have hb : Bytes l := fun b hb => wf_u8 (hw b hb)
  have hA := wf_u64 ha
  obtain ⟨n, rfl⟩ := Int.eq_ofNat_of_zero_le hA.1
  have hn : n < 18446744073709551616 := by omega
  refine ⟨40, ?_⟩
  unfold laws_FnUnsignedBack.f
  by_cases c1 : (l.length : Int) > 2147483647
  · rw [if_pos c1]
  rw [if_neg c1]
  by_cases c2 : (l.length : Int) > 65536
  · rw [if_pos c2]
  have hu := ub_length_10 n hn
  have hbb : Bytes (ub n ++ l) := fun b hb' => by
    rcases List.mem_append.1 hb' with h | h
    · exact ub_byte n b h
    · exact hb b h
  rw [if_neg c2, impl_AppendUnsigned_f n hn]
  simp only [Option.bind_some, List.nil_append, List.length_nil]
  rw [if_pos (by omega), if_pos (by omega), impl_Unsigned_f2 _ (by simp; omega) hbb]
  simp only [Option.bind_some, unsignedOf, uread_ub]
  rw [if_pos trivial, if_pos (by omega)]
  simp

end Go.Proofs.Ytkgkdppjopilmaa.Pure
