/- A signed number in LEB128 is read as the reference reads it, for every list of bytes. No conditions beyond the statement's own. -/
import Derived.Test.YtkgkdppjopilmaaPNumx3
import Derived.Test.YtkgkdppjopilmaaPureFnUnsignedIs
import Derived.Test.YtkgkdppjopilmaaGiven1
import Derived.Test.YtkgkdppjopilmaaDigits
namespace Go.Proofs.Ytkgkdppjopilmaa.Pure
open Go.RowKit Go.Proofs.Ytkgkdppjopilmaa.PNum Go.Proofs.YtkgkdppjopilmaaW.PrintWords Go.Proofs.YtkgkdppjopilmaaW.PrintLast Go.Proofs.YtkgkdppjopilmaaW.PrintMore Go.Proofs.Ytkgkdppjopilmaa.Leb Go.Proofs.Ytkgkdppjopilmaa.Given Go.Proofs.Ytkgkdppjopilmaa.Buf

theorem impl_Signed_f2 (l : List Int) (hl : l.length < 2147483648) (hb : Bytes l) : impl_Signed.f l = some (signedOf l) := by
  unfold impl_Signed.f impl_copied.f dwarf_Signed.f
  rw [if_pos (by omega)]
  simp only [Option.bind_some]
  rw [if_pos ⟨by omega, ok_of_bytes hb⟩]
  rfl

/-- The sign of what was read: the last byte has 64. -/
theorem sign_of (l : List Int) (hb : Bytes l) (v n : Nat) (hu : uread l = some (v, n)) : ∃ h : n - 1 < l.length, 0 < n ∧ l[n - 1] < 128 ∧ (v / 2 ^ (7 * n - 1) % 2 = 1 ↔ ¬ l[n - 1] < 64) := by
  induction l generalizing v n with
  | nil => simp [uread] at hu
  | cons b r ih =>
    have h0 := hb b (by simp)
    unfold uread at hu
    split at hu
    · rename_i hlt
      simp at hu
      obtain ⟨rfl, rfl⟩ := hu
      refine ⟨by simp, by decide, by simpa using hlt, ?_⟩
      simp
      omega
    · cases hr : uread r with
      | none => rw [hr] at hu; simp at hu
      | some p =>
        obtain ⟨v', n'⟩ := p
        rw [hr] at hu
        simp at hu
        obtain ⟨rfl, rfl⟩ := hu
        obtain ⟨h1, h2, h3, h4⟩ := ih (fun x hx => hb x (by simp [hx])) v' n' hr
        have e : (b :: r)[n' + 1 - 1]'(by simp; omega) = r[n' - 1] := by
          simp only [show n' + 1 - 1 = (n' - 1) + 1 by omega, List.getElem_cons_succ]
        refine ⟨by simp; omega, by omega, by rw [e]; exact h3, ?_⟩
        rw [e, ← h4, show 7 * (n' + 1) - 1 = 7 + (7 * n' - 1) by omega, Nat.pow_add, ← Nat.div_div_eq_div_mul, show ((b - 128).toNat + 128 * v') / 2 ^ 7 = v' by omega]

theorem signed_wrap (v P : Nat) (hv : v < 9223372036854775808) (hP : P ≤ 9223372036854775808) : wrap64 (wrap64 (v : Int) - IntKind.i64.wrap (P : Int)) = (v : Int) - (P : Int) := by
  have h1 : wrap64 (v : Int) = (v : Int) := by unfold wrap64; omega
  rw [h1]
  by_cases hc : P = 9223372036854775808
  · have h2 : IntKind.i64.wrap (P : Int) = -9223372036854775808 := by rw [hc]; decide
    rw [h2, hc]
    unfold wrap64
    omega
  · have h2 : IntKind.i64.wrap (P : Int) = (P : Int) := by rw [IntKind.wrap_i64]; omega
    rw [h2]
    unfold wrap64
    omega
theorem shl_one (n : Nat) (h : 7 * n ≤ 64) : shl .i64 1 ((7 * n : Nat) : Int) = IntKind.i64.wrap ((2 ^ (7 * n) : Nat) : Int) := by
  have hm : min ((7 * n : Nat) : Int).toNat IntKind.i64.bits = 7 * n := by rw [Int.toNat_natCast]; exact Nat.min_eq_left h
  unfold shl
  rw [hm, Int.one_mul, Int.natCast_pow]
  rfl

theorem FnSignedIs : laws_FnSignedIs.Pure := by
  intro l h1 _ hw
  have hb : Bytes l := fun b hb => wf_u8 (hw b hb)
  refine Ev.rounds ?_
  unfold laws_FnSignedIs.f
  by_cases c1 : (l.length : Int) > 2147483647
  · simp only [if_pos c1]; exact Ev.now _
  by_cases c2 : (l.length : Int) > 65536
  · simp only [if_neg c1, if_pos c2]; exact Ev.now _
  have e := impl_Signed_f2 l (by omega) hb
  obtain ⟨r, hr, hE⟩ := ref_f l (by omega) hb
  simp only [if_neg c1, if_neg c2, e, Option.bind_some]
  unfold refOf at hr
  unfold signedOf
  cases hu : uread l with
  | none =>
    rw [hu] at hr
    simp only at hr
    have hS : Ev (fun k => spec_SignedOf.f k l) (wrap64 0, 0) := by
      unfold spec_SignedOf.f
      refine Ev.bind hE ?_
      rw [hr]
      exact Ev.now _
    exact Ev.bind hS (Ev.now _)
  | some p =>
    obtain ⟨v, n⟩ := p
    rw [hu] at hr
    simp only at hr
    have hn := uread_count hu
    have hv := uread_lt hb hu
    obtain ⟨hi, _, hlast, hsign⟩ := sign_of l hb v n hu
    have hS : ∃ s, (n ≤ 9 → s = sval v n) ∧ Ev (fun k => spec_SignedOf.f k l) (s, (n : Int)) := by
      have hw1 : wrap64 ((n : Int) - 1) = ((n - 1 : Nat) : Int) := by unfold wrap64; omega
      have hbig : n ≤ 9 → v < 9223372036854775808 := fun h9 => by
        have hp : (128 : Nat) ^ n ≤ 128 ^ 9 := Nat.pow_le_pow_right (by decide) h9
        have h9' : (128 : Nat) ^ 9 = 9223372036854775808 := rfl
        omega
      by_cases h64 : l[n - 1] < 64
      · refine ⟨wrap64 r.1, fun h9 => ?_, ?_⟩
        · rw [hr.2 h9, sval, if_pos h9, if_neg (fun h => hsign.1 h h64)]
          have := hbig h9
          unfold wrap64; omega
        · unfold spec_SignedOf.f
          refine Ev.bind hE ?_
          rw [hr.1]
          rw [if_neg (by omega), hw1, if_pos (by omega), if_pos (by omega), rd_nat l (n - 1) hi, if_pos h64]
          exact Ev.now _
      · by_cases h9 : (n : Int) > 9
        · refine ⟨wrap64 r.1, fun h => by omega, ?_⟩
          unfold spec_SignedOf.f
          refine Ev.bind hE ?_
          rw [hr.1]
          rw [if_neg (by omega), hw1, if_pos (by omega), if_pos (by omega), rd_nat l (n - 1) hi, if_neg h64, if_pos h9]
          exact Ev.now _
        · have hw7 : wrap64 (7 * (n : Int)) = ((7 * n : Nat) : Int) := by unfold wrap64; omega
          refine ⟨wrap64 (wrap64 r.1 - shl .i64 1 ((7 * n : Nat) : Int)), fun _ => ?_, ?_⟩
          · have hv9 := hbig (by omega)
            have hp : (2 : Nat) ^ (7 * n) ≤ 9223372036854775808 := by
              have h63 : (2 : Nat) ^ (7 * n) ≤ 2 ^ 63 := Nat.pow_le_pow_right (by decide) (by omega)
              exact h63
            rw [hr.2 (by omega), shl_one n (by omega), sval, if_pos (by omega), if_pos (hsign.2 h64)]
            exact signed_wrap v _ hv9 hp
          · unfold spec_SignedOf.f
            refine Ev.bind hE ?_
            rw [hr.1]
            rw [if_neg (by omega), hw1, if_pos (by omega), if_pos (by omega), rd_nat l (n - 1) hi, if_neg h64, if_neg h9, hw7, if_pos (by omega)]
            exact Ev.now _
    obtain ⟨s, hs, hE2⟩ := hS
    refine Ev.bind hE2 ?_
    simp only
    rw [if_neg (by omega), if_pos trivial, if_pos trivial]
    by_cases h9 : (n : Int) > 9
    · rw [if_pos h9]; exact Ev.now _
    · rw [if_neg h9, hs (by omega)]
      simp only [beq_self_eq_true]
      exact Ev.now _

end Go.Proofs.Ytkgkdppjopilmaa.Pure
