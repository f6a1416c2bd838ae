/- An unsigned number in LEB128 is read as the reference reads it, for every list of bytes. No conditions beyond the statement's own. -/
import Derived.Test.YtkgkdppjopilmaaPNumx2
import Derived.Test.YtkgkdppjopilmaaGiven1
import Derived.Test.YtkgkdppjopilmaaDigits
namespace Go.Proofs.Ytkgkdppjopilmaa.Pure
open Go.RowKit Go.Proofs.Ytkgkdppjopilmaa.PNum Go.Proofs.YtkgkdppjopilmaaW.PrintWords Go.Proofs.YtkgkdppjopilmaaW.PrintLast Go.Proofs.YtkgkdppjopilmaaW.PrintMore Go.Proofs.Ytkgkdppjopilmaa.Leb Go.Proofs.Ytkgkdppjopilmaa.Given Go.Proofs.Ytkgkdppjopilmaa.Buf

/-- What the reference tells: the number (of at most nine bytes) and how many bytes. -/
def refOf (l : List Int) (r : Int × Int) : Prop := match uread l with
  | none => r = (0, 0)
  | some (v, n) => r.2 = (n : Int) ∧ (n ≤ 9 → r.1 = (v : Int))

theorem low9 (l : List Int) (i : Nat) : low l i < 128 ^ i := low_lt l i

theorem ref_l0 (l : List Int) (hl : l.length ≤ 4000000000) (hb : Bytes l) (d : Nat) : ∀ i, l.length - i = d → i ≤ l.length → (∀ j (hj : j < l.length), j < i → 128 ≤ l[j]) →
    ∃ r, refOf l r ∧ Ev (fun k => spec_UnsignedOf.l0 k ((low l (min i 9) : Nat) : Int) l (l.length : Int) (i : Int)) r := by
  induction d with
  | zero =>
    intro i hd hi hj
    have hz : uread l = none := uread_none l (fun j hj' => hj j hj' (by omega))
    refine ⟨(0, 0), by unfold refOf; rw [hz], Ev.step (f := fun _ => some (0, 0)) (fun k => ?_) (Ev.now _)⟩
    simp only [spec_UnsignedOf.l0]
    rw [if_neg (by omega)]
  | succ d ih =>
    intro i hd hi hj
    have hlt : i < l.length := by omega
    have hw : wrap64 ((i : Int) + 1) = ((i + 1 : Nat) : Int) := by unfold wrap64; omega
    have hbi := hb l[i] (List.getElem_mem hlt)
    have hlow := low_lt l i
    by_cases h9 : i < 9
    · have hw7 : wrap64 (7 * (i : Int)) = ((7 * i : Nat) : Int) := by unfold wrap64; omega
      have hs : IntKind.u64.wrap (((low l (min i 9) : Nat) : Int) + shl .u64 (IntKind.u64.wrap (Int.tmod l[i] 128)) ((7 * i : Nat) : Int)) = ((low l (min (i + 1) 9) : Nat) : Int) := by
        obtain ⟨n, hn⟩ : ∃ n : Nat, l[i] = (n : Int) := ⟨l[i].toNat, by omega⟩
        have e1 : IntKind.u64.wrap (Int.tmod l[i] 128) = ((n % 128 : Nat) : Int) := by
          rw [hn, Int.tmod_eq_emod_of_nonneg (by omega), IntKind.wrap_u64]; omega
        have e2 : shl .u64 ((n % 128 : Nat) : Int) ((7 * i : Nat) : Int) = ((n % 128 * 2 ^ (7 * i) % 18446744073709551616 : Nat) : Int) := by
          unfold shl; rw [Int.toNat_natCast]; exact shl_u64 _ _
        have e3 : (2 : Nat) ^ (7 * i) = 128 ^ i := by rw [Nat.pow_mul]
        have e4 := low_step l i hlt
        have e5 := low_lt l (i + 1)
        have e6 : (128 : Nat) ^ (i + 1) ≤ 128 ^ 9 := Nat.pow_le_pow_right (by decide) (by omega)
        have e7 : (128 : Nat) ^ 9 = 9223372036854775808 := rfl
        have e8 : (l[i] % 128).toNat = n % 128 := by omega
        rw [e8] at e4
        rw [e1, e2, e3, Nat.min_eq_left (by omega), Nat.min_eq_left (by omega), IntKind.wrap_u64]
        generalize n % 128 * 128 ^ i = X at *
        omega
      by_cases h0 : l[i] < 128
      · have hz := uread_at l i hlt hb (fun j hj' => hj j (by omega) hj') h0
        refine ⟨(((low l (min (i + 1) 9) : Nat) : Int), ((i + 1 : Nat) : Int)), ?_, Ev.step (f := fun _ => some (((low l (min (i + 1) 9) : Nat) : Int), ((i + 1 : Nat) : Int))) (fun k => ?_) (Ev.now _)⟩
        · unfold refOf
          rw [hz]
          refine ⟨rfl, fun _ => ?_⟩
          rw [Nat.min_eq_left (by omega)]
        · simp only [spec_UnsignedOf.l0]
          rw [if_pos (by omega), if_pos (by omega), if_pos (by omega), if_pos (by omega), hw7, if_pos (by omega), rd_nat l i hlt, if_pos h0, hs, hw]
      · obtain ⟨r, hr, hE⟩ := ih (i + 1) (by omega) (by omega) (fun j hj' hji => by
          by_cases hc : j = i
          · subst hc; omega
          · exact hj j hj' (by omega))
        refine ⟨r, hr, Ev.step (fun k => ?_) hE⟩
        simp only [spec_UnsignedOf.l0]
        rw [if_pos (by omega), if_pos (by omega), if_pos (by omega), if_pos (by omega), hw7, if_pos (by omega), rd_nat l i hlt, if_neg h0, hs, hw]
    · by_cases h0 : l[i] < 128
      · have hz := uread_at l i hlt hb (fun j hj' => hj j (by omega) hj') h0
        refine ⟨(((low l (min i 9) : Nat) : Int), ((i + 1 : Nat) : Int)), ?_, Ev.step (f := fun _ => some (((low l (min i 9) : Nat) : Int), ((i + 1 : Nat) : Int))) (fun k => ?_) (Ev.now _)⟩
        · unfold refOf
          rw [hz]
          exact ⟨rfl, fun _ => by omega⟩
        · simp only [spec_UnsignedOf.l0]
          rw [if_pos (by omega), if_pos (by omega), if_pos (by omega), if_neg (by omega), rd_nat l i hlt, if_pos h0, hw]
      · obtain ⟨r, hr, hE⟩ := ih (i + 1) (by omega) (by omega) (fun j hj' hji => by
          by_cases hc : j = i
          · subst hc; omega
          · exact hj j hj' (by omega))
        rw [show min (i + 1) 9 = min i 9 by omega] at hE
        refine ⟨r, hr, Ev.step (fun k => ?_) hE⟩
        simp only [spec_UnsignedOf.l0]
        rw [if_pos (by omega), if_pos (by omega), if_pos (by omega), if_neg (by omega), rd_nat l i hlt, if_neg h0, hw]

theorem ref_f (l : List Int) (hl : l.length ≤ 4000000000) (hb : Bytes l) : ∃ r, refOf l r ∧ Ev (fun k => spec_UnsignedOf.f k l) r := by
  have h := ref_l0 l hl hb _ 0 rfl (by omega) (fun j _ h => by omega)
  simpa [spec_UnsignedOf.f, low] using h

theorem impl_Unsigned_f (l : List Int) (hl : l.length < 2147483648) (hb : Bytes l) : impl_Unsigned.f l = some (unsignedOf l) := by
  unfold impl_Unsigned.f impl_copied.f dwarf_Unsigned.f
  rw [if_pos (by omega)]
  simp only [Option.bind_some]
  rw [if_pos ⟨by omega, ok_of_bytes hb⟩]
  rfl

theorem FnUnsignedIs : laws_FnUnsignedIs.Pure := by
  intro l h1 _ hw
  have hb : Bytes l := fun b hb => wf_u8 (hw b hb)
  refine Ev.rounds ?_
  unfold laws_FnUnsignedIs.f
  by_cases c1 : (l.length : Int) > 2147483647
  · simp only [if_pos c1]; exact Ev.now _
  by_cases c2 : (l.length : Int) > 65536
  · simp only [if_neg c1, if_pos c2]; exact Ev.now _
  have e := impl_Unsigned_f l (by omega) hb
  obtain ⟨r, hr, hE⟩ := ref_f l (by omega) hb
  simp only [if_neg c1, if_neg c2, e, Option.bind_some]
  refine Ev.bind hE ?_
  unfold refOf at hr
  unfold unsignedOf
  cases hu : uread l with
  | none =>
    rw [hu] at hr
    simp only at hr
    rw [hr]
    exact Ev.now _
  | some p =>
    obtain ⟨v, n⟩ := p
    rw [hu] at hr
    simp only at hr
    have hn := (uread_count hu).1
    have hv := uread_lt hb hu
    simp only [hr.1]
    rw [if_neg (by omega), if_pos trivial]
    by_cases h9 : (n : Int) > 9
    · rw [if_pos h9]; exact Ev.now _
    · rw [if_neg h9, hr.2 (by omega)]
      have hp : (128 : Nat) ^ n ≤ 128 ^ 9 := Nat.pow_le_pow_right (by decide) (by omega)
      have h9' : (128 : Nat) ^ 9 = 9223372036854775808 := rfl
      have : (((v % 18446744073709551616 : Nat) : Int) == (v : Int)) = true := by simp; omega
      rw [this]
      exact Ev.now _

end Go.Proofs.Ytkgkdppjopilmaa.Pure
