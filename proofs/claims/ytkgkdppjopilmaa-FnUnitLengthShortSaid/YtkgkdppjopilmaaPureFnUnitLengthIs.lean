/- A unit's length is read in both formats and both orders of bytes, whatever stands behind it. No conditions beyond the statement's own. -/
import Derived.Test.YtkgkdppjopilmaaPUnitx2
import Derived.Test.YtkgkdppjopilmaaGiven2
namespace Go.Proofs.Ytkgkdppjopilmaa.Pure
open Go.RowKit Go.Proofs.Ytkgkdppjopilmaa.PUnit Go.Proofs.YtkgkdppjopilmaaW.PrintWords Go.Proofs.YtkgkdppjopilmaaW.PrintLast Go.Proofs.YtkgkdppjopilmaaW.PrintMore Go.Proofs.Ytkgkdppjopilmaa.Leb Go.Proofs.Ytkgkdppjopilmaa.Given Go.Proofs.Ytkgkdppjopilmaa.Buf

/-- A number's bytes, the last one first. -/
def le4 (n : Int) : List Int := [n % 256, n / 256 % 256, n / 256 / 256 % 256, n / 256 / 256 / 256 % 256]
def le8 (n : Int) : List Int := le4 n ++ le4 (n / 256 / 256 / 256 / 256)
def inOrder (big : Bool) (l : List Int) : List Int := if big then l.reverse else l

theorem fixed4 (n : Int) (big : Bool) (k : Nat) : spec_Fixed.f (k + 9) n 4 big = some (inOrder big (le4 n)) := by
  cases big <;> simp [spec_Fixed.f, spec_Fixed.l0, wrap64, inOrder, le4, List.replicate, List.set]
theorem fixed8 (n : Int) (big : Bool) (k : Nat) : spec_Fixed.f (k + 9) n 8 big = some (inOrder big (le8 n)) := by
  cases big <;> simp [spec_Fixed.f, spec_Fixed.l0, wrap64, inOrder, le8, le4, List.replicate, List.set]

theorem four_le4 (n : Int) (h : 0 ≤ n ∧ n < 4294967296) : four false (n % 256) (n / 256 % 256) (n / 256 / 256 % 256) (n / 256 / 256 / 256 % 256) = n ∧ four true (n / 256 / 256 / 256 % 256) (n / 256 / 256 % 256) (n / 256 % 256) (n % 256) = n := by
  simp only [four, two]
  simp
  omega

theorem unit_narrow (n : Int) (big : Bool) (rest : List Int) (h : 0 ≤ n ∧ n < 4294967280) : unitOf big (inOrder big (le4 n) ++ rest) = (n, false, 4, true) := by
  have h4 := four_le4 n ⟨h.1, by omega⟩
  have e : (S.mk 0 (inOrder big (le4 n) ++ rest) true).u32 big = (n, (S.mk 0 (inOrder big (le4 n) ++ rest) true).adv 4) := by
    cases big
    · show (four false _ _ _ _, _) = _
      rw [h4.1]
    · show (four true _ _ _ _, _) = _
      rw [h4.2]
  have e2 : (S.mk 0 (inOrder big (le4 n) ++ rest) true).unit big = (n, false, (S.mk 0 (inOrder big (le4 n) ++ rest) true).adv 4) := by
    unfold S.unit
    rw [e, if_neg (by simp only; omega), if_neg (by simp only; omega)]
  unfold unitOf
  rw [e2]
  rfl

theorem unit_wide (n : Int) (big : Bool) (rest : List Int) (h : 0 ≤ n ∧ n < 4294967296) : unitOf big ([255, 255, 255, 255] ++ inOrder big (le8 n) ++ rest) = (n, true, 12, true) := by
  have h4 := four_le4 n h
  have h0 : n / 256 / 256 / 256 / 256 = 0 := by omega
  have e : (S.mk 0 ([255, 255, 255, 255] ++ inOrder big (le8 n) ++ rest) true).u32 big = (4294967295, S.mk 4 (inOrder big (le8 n) ++ rest) true) := by
    cases big <;> rfl
  have e3 : ((S.mk 4 (inOrder big (le8 n) ++ rest) true).u64 big) = (n, S.mk 12 rest true) := by
    cases big
    · show (four false _ _ _ _ + 4294967296 * four false _ _ _ _, _) = _
      rw [h4.1]
      unfold le8
      rw [h0]
      show (n + 4294967296 * four false 0 0 0 0, _) = _
      rw [show n + 4294967296 * four false 0 0 0 0 = n by simp [four, two]]
      rfl
    · show (four true _ _ _ _ + 4294967296 * four true _ _ _ _, _) = _
      rw [h4.2]
      unfold le8
      rw [h0]
      show (n + 4294967296 * four true 0 0 0 0, _) = _
      rw [show n + 4294967296 * four true 0 0 0 0 = n by simp [four, two]]
      rfl
  have e2 : (S.mk 0 ([255, 255, 255, 255] ++ inOrder big (le8 n) ++ rest) true).unit big = (n, true, S.mk 12 rest true) := by
    unfold S.unit
    rw [e, if_pos rfl, e3, show (n, S.mk 12 rest true).1 % 4294967296 = n from Int.emod_eq_of_lt h.1 h.2]
  unfold unitOf
  rw [e2]

theorem le4_bytes (n : Int) : Bytes (le4 n) := by
  intro b hb
  simp [le4] at hb
  omega
theorem le8_bytes (n : Int) : Bytes (le8 n) := by
  intro b hb
  rcases List.mem_append.1 hb with h | h
  · exact le4_bytes _ b h
  · exact le4_bytes _ b h
theorem order_bytes (big : Bool) (l : List Int) (h : Bytes l) : Bytes (inOrder big l) := by
  intro b hb
  cases big
  · exact h b hb
  · exact h b (List.mem_reverse.1 hb)
theorem app_bytes {l m : List Int} (h : Bytes l) (k : Bytes m) : Bytes (l ++ m) := by
  intro b hb
  rcases List.mem_append.1 hb with hb | hb
  · exact h b hb
  · exact k b hb

theorem impl_UnitLength_f (l : List Int) (big : Bool) (hl : l.length < 2147483648) (hb : Bytes l) : impl_UnitLength.f l big = some (wrap64 (unitOf big l).1, (unitOf big l).2.1, (unitOf big l).2.2.1, (unitOf big l).2.2.2) := by
  unfold impl_UnitLength.f impl_copied.f dwarf_UnitLength.f
  rw [if_pos (by omega)]
  simp only [Option.bind_some]
  rw [if_pos ⟨by omega, ok_of_bytes hb⟩]
  rfl
theorem order_length (big : Bool) (l : List Int) : (inOrder big l).length = l.length := by cases big <;> simp [inOrder]

theorem FnUnitLengthIs : laws_FnUnitLengthIs.Pure := by
  intro n wide big l _ h1 _ hw
  have hb : Bytes l := fun b hb => wf_u8 (hw b hb)
  refine ⟨20, ?_⟩
  have done : laws_FnUnitLengthIs.j0 20 n wide big l true = some true := by simp only [laws_FnUnitLengthIs.j0]; rw [if_pos trivial]
  unfold laws_FnUnitLengthIs.f
  by_cases c1 : (l.length : Int) > 2147483647
  · rw [if_pos c1]
  by_cases c2 : n < 0
  · rw [if_neg c1, if_pos c2, done]
  by_cases c3 : n ≥ 4294967280
  · rw [if_neg c1, if_neg c2, if_pos c3, done]
  rw [if_neg c1, if_neg c2, if_neg c3]
  by_cases c4 : (l.length : Int) > 65536
  · rw [decide_eq_true c4, done]
  rw [decide_eq_false c4]
  have hwn : IntKind.u64.wrap n = n := by rw [IntKind.wrap_u64]; omega
  have hw64 : wrap64 n = n := by unfold wrap64; omega
  simp only [laws_FnUnitLengthIs.j0]
  rw [if_neg (by decide)]
  cases wide with
  | true =>
    have e : spec_Offset.f 19 n true big = some (inOrder big (le8 n)) := by
      unfold spec_Offset.f
      rw [if_pos rfl, hwn, fixed8 n big 10]
      rfl
    have hl8 : (inOrder big (le8 n)).length = 8 := by rw [order_length]; rfl
    rw [e]
    simp only [Option.bind_some, List.nil_append, List.length_nil, if_true]
    have hu := unit_wide n big l ⟨by omega, by omega⟩
    rw [if_pos (by simp [hl8]), if_pos (by simp [hl8]), if_pos (by simp [hl8]; omega), impl_UnitLength_f _ _ (by simp [hl8]; omega) (app_bytes (app_bytes (by intro b hb; simp at hb; omega) (order_bytes big _ (le8_bytes n))) hb), hu]
    simp [hw64, hl8]
  | false =>
    have e : spec_Offset.f 19 n false big = some (inOrder big (le4 n)) := by
      unfold spec_Offset.f
      rw [if_neg (by decide), hwn, fixed4 n big 10]
      rfl
    have hl4 : (inOrder big (le4 n)).length = 4 := by rw [order_length]; rfl
    rw [e]
    simp only [Option.bind_some, List.nil_append, List.length_nil]
    have hu := unit_narrow n big l ⟨by omega, by omega⟩
    rw [if_neg (by decide), if_pos (by simp [hl4]), if_pos (by simp [hl4]; omega), impl_UnitLength_f _ _ (by simp [hl4]; omega) (app_bytes (order_bytes big _ (le4_bytes n)) hb), hu]
    simp [hw64, hl4]

end Go.Proofs.Ytkgkdppjopilmaa.Pure
