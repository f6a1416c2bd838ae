/- Every signed number that was written is read, whatever stands behind it. No conditions beyond the statement's own. -/
import Derived.Test.YtkgkdppjopilmaaPNumx5
import Derived.Test.YtkgkdppjopilmaaGiven1
import Derived.Test.YtkgkdppjopilmaaDigits
namespace Go.Proofs.Ytkgkdppjopilmaa.Pure
open Go.RowKit Go.Proofs.Ytkgkdppjopilmaa.PNum Go.Proofs.YtkgkdppjopilmaaW.PrintWords Go.Proofs.YtkgkdppjopilmaaW.PrintLast Go.Proofs.YtkgkdppjopilmaaW.PrintMore Go.Proofs.Ytkgkdppjopilmaa.Leb Go.Proofs.Ytkgkdppjopilmaa.Given Go.Proofs.Ytkgkdppjopilmaa.Buf

theorem impl_Signed_f3 (l : List Int) (hl : l.length < 2147483648) (hb : Bytes l) : impl_Signed.f l = some (signedOf l) := by
  unfold impl_Signed.f impl_copied.f dwarf_Signed.f
  rw [if_pos (by omega)]
  simp only [Option.bind_some]
  rw [if_pos ⟨by omega, ok_of_bytes hb⟩]
  rfl

theorem sleb_j1_more (k : Nat) (x0 : List Int) (v c : Int) (h0 : 0 ≤ c) (hc : c < 128) (hl : x0.length < 140737488355328) :
    dwarfwrite_AppendSleb128.j1 (k + 1) x0 v c true = dwarfwrite_AppendSleb128.l0 k (x0 ++ [c + 128]) v := by
  obtain ⟨c, rfl⟩ := Int.eq_ofNat_of_zero_le h0
  simp only [dwarfwrite_AppendSleb128.j1]
  rw [if_pos trivial, if_pos hl, or128_u8 c (by omega), and128_u8 _ (by omega)]
  simp only [Option.bind_some]
  rw [if_neg (by omega)]
  congr 1
theorem sleb_j1_last (k : Nat) (x0 : List Int) (v c : Int) (h0 : 0 ≤ c) (hc : c < 128) (hl : x0.length < 140737488355328) :
    dwarfwrite_AppendSleb128.j1 (k + 1) x0 v c false = some (x0 ++ [c]) := by
  obtain ⟨c, rfl⟩ := Int.eq_ofNat_of_zero_le h0
  simp only [dwarfwrite_AppendSleb128.j1]
  rw [if_neg (by simp), if_pos hl, and128_u8 _ (by omega)]
  simp only [Option.bind_some]
  rw [if_pos (by omega)]

theorem sleb_step (k : Nat) (x0 : List Int) (n : Int) : dwarfwrite_AppendSleb128.l0 (k + 1) x0 n = dwarfwrite_AppendSleb128.j1 k x0 (n / 128) (n % 128) (!sEnd (n / 128) (n % 128)) := by
  simp only [dwarfwrite_AppendSleb128.l0]
  rw [and64_i64, i64_and127]
  have e1 : n % 128 % 256 = n % 128 := by omega
  have e2 : n / 64 % 2 * 64 % 256 = n / 64 % 2 * 64 := by omega
  rw [e1, e2]
  by_cases h1 : n / 128 = -1
  · rw [if_pos h1]
    by_cases h2 : n / 64 % 2 * 64 = 0
    · rw [if_pos h2, if_neg (by omega), show sEnd (n / 128) (n % 128) = false by rw [← Bool.not_eq_true, sEnd_iff]; omega]
      rfl
    · rw [if_neg h2, show sEnd (n / 128) (n % 128) = true by rw [sEnd_iff]; omega]
      rfl
  · rw [if_neg h1]
    by_cases h2 : n / 128 = 0
    · rw [if_pos h2]
      by_cases h3 : n / 64 % 2 * 64 = 0
      · rw [show sEnd (n / 128) (n % 128) = true by rw [sEnd_iff]; omega, h3]
        rfl
      · rw [show sEnd (n / 128) (n % 128) = false by rw [← Bool.not_eq_true, sEnd_iff]; omega, bne_iff_ne.mpr h3]
        rfl
    · rw [if_neg h2, show sEnd (n / 128) (n % 128) = false by rw [← Bool.not_eq_true, sEnd_iff]; omega]
      rfl

theorem sleb_l0 (m : Nat) : ∀ (n : Int), n.natAbs = m → ∀ (k : Nat) (x0 : List Int), 2 * (sb n).length ≤ k → x0.length + (sb n).length ≤ 140737488355328 → dwarfwrite_AppendSleb128.l0 k x0 n = some (x0 ++ sb n) := by
  induction m using Nat.strongRecOn with
  | _ m ih =>
    intro n hm k x0 hk hx
    have hp := sb_length_pos n
    obtain ⟨k, rfl⟩ : ∃ m, k = m + 1 + 1 := ⟨k - 2, by omega⟩
    rw [sleb_step]
    by_cases he : sEnd (n / 128) (n % 128) = true
    · rw [he, Bool.not_true, sleb_j1_last k x0 _ _ (by omega) (by omega) (by omega), sb_small he]
    · have h' := he
      rw [sEnd_iff] at h'
      rw [sb_big he, List.length_cons] at hk hx
      rw [Bool.not_eq_true] at he
      rw [he, Bool.not_false, sleb_j1_more k x0 _ _ (by omega) (by omega) (by omega), ih (n / 128).natAbs (by omega) (n / 128) rfl k _ (by omega) (by simp; omega), sb_big (n := n) (by rw [he]; decide)]
      simp

theorem FnSignedBack : laws_FnSignedBack.Pure := by
  intro a l ha h1 _ hw
  have hb : Bytes l := fun b hb => wf_u8 (hw b hb)
  have hA := wf_i64 ha
  refine ⟨40, ?_⟩
  unfold laws_FnSignedBack.f
  by_cases c1 : (l.length : Int) > 2147483647
  · rw [if_pos c1]
  rw [if_neg c1]
  by_cases c2 : (l.length : Int) > 65536
  · rw [if_pos c2]
  have hu := sb_length_10 a hA.1 hA.2
  have hbb : Bytes (sb a ++ l) := fun b hb' => by
    rcases List.mem_append.1 hb' with h | h
    · exact sb_byte _ a rfl b h
    · exact hb b h
  have e : impl_AppendSigned.f 40 [] a = some (sb a) := by
    unfold impl_AppendSigned.f impl_copied.f
    rw [if_pos (by simp)]
    simp only [Option.bind_some]
    unfold dwarfwrite_AppendSleb128.f
    rw [sleb_l0 _ a rfl 40 [] (by omega) (by simp; omega)]
    rfl
  obtain ⟨v, hv1, hv2⟩ := uread_sb a l
  rw [if_neg c2, e]
  simp only [Option.bind_some, List.nil_append, List.length_nil]
  rw [if_pos (by omega), if_pos (by omega), impl_Signed_f3 _ (by simp; omega) hbb]
  simp only [Option.bind_some, signedOf, hv1, hv2]
  rw [if_pos trivial, if_pos (by rw [IntKind.wrap_i64]; omega)]
  simp

end Go.Proofs.Ytkgkdppjopilmaa.Pure
