/- A text goes up to the first zero, for every list of bytes. No conditions beyond the statement's own. -/
import Derived.Test.YtkgkdppjopilmaaPNumx1
import Derived.Test.YtkgkdppjopilmaaGiven1
namespace Go.Proofs.Ytkgkdppjopilmaa.Pure
open Go.RowKit Go.Proofs.Ytkgkdppjopilmaa.PNum Go.Proofs.YtkgkdppjopilmaaW.PrintWords Go.Proofs.YtkgkdppjopilmaaW.PrintLast Go.Proofs.Ytkgkdppjopilmaa.Leb Go.Proofs.Ytkgkdppjopilmaa.Given Go.Proofs.Ytkgkdppjopilmaa.Buf

theorem zeroAt_at : ∀ (l : List Int) (n : Nat) (h : n < l.length), (∀ j (hj : j < n), l[j] ≠ 0) → l[n] = 0 → zeroAt l = some n
  | [], _, h, _, _ => by simp at h
  | b :: r, 0, _, _, hn => by
    simp only [List.getElem_cons_zero] at hn
    rw [zeroAt, if_pos hn]
  | b :: r, n + 1, h, hj, hn => by
    have h0 := hj 0 (by omega)
    simp only [List.getElem_cons_zero] at h0
    have ih := zeroAt_at r n (by simpa using h) (fun j hj' => by have := hj (j + 1) (by omega); simpa using this) (by simpa using hn)
    rw [zeroAt, if_neg h0, ih]
    rfl
theorem zeroAt_none : ∀ (l : List Int), (∀ j (hj : j < l.length), l[j] ≠ 0) → zeroAt l = none
  | [], _ => rfl
  | b :: r, h => by
    have h0 := h 0 (by simp)
    simp only [List.getElem_cons_zero] at h0
    rw [zeroAt, if_neg h0, zeroAt_none r (fun j hj => by have := h (j + 1) (by simpa using hj); simpa using this)]
    rfl

theorem text_l0 (l : List Int) (hl : l.length ≤ 65536) (d : Nat) : ∀ i, l.length - i = d → i ≤ l.length → (∀ j (hj : j < l.length), j < i → l[j] ≠ 0) →
    Ev (fun k => laws_FnTextIs.l0 k l (textOf l).1 (textOf l).2.1 (textOf l).2.2 l (l.length : Int) (i : Int)) true := by
  induction d with
  | zero =>
    intro i hd hi hj
    have hz : zeroAt l = none := zeroAt_none l (fun j hj' => hj j hj' (by omega))
    refine Ev.step (f := fun _ => some true) (fun k => ?_) (Ev.now _)
    simp only [laws_FnTextIs.l0]
    rw [if_neg (by omega)]
    simp [textOf, hz]
  | succ d ih =>
    intro i hd hi hj
    have hlt : i < l.length := by omega
    have hw : wrap64 ((i : Int) + 1) = ((i + 1 : Nat) : Int) := by unfold wrap64; omega
    by_cases h0 : l[i] = 0
    · have hz : zeroAt l = some i := zeroAt_at l i hlt (fun j hj' => hj j (by omega) hj') h0
      refine Ev.step (f := fun _ => some true) (fun k => ?_) (Ev.now _)
      simp only [laws_FnTextIs.l0]
      rw [if_pos (by omega), if_pos (by omega), if_pos (by omega), rd_nat l i hlt, if_pos h0, hw]
      simp only [textOf, hz, Int.toNat_natCast]
      rw [if_pos trivial, if_pos (by omega), if_pos trivial]
      simp
    · refine Ev.step (fun k => ?_) (ih (i + 1) (by omega) (by omega) (fun j hj' hji => ?_))
      · simp only [laws_FnTextIs.l0]
        rw [if_pos (by omega), if_pos (by omega), if_pos (by omega), rd_nat l i hlt, if_neg h0, hw]
      · by_cases hc : j = i
        · subst hc; exact h0
        · exact hj j hj' (by omega)

theorem FnTextIs : laws_FnTextIs.Pure := by
  intro l h1 _ hw
  have hb : Bytes l := fun b hb => wf_u8 (hw b hb)
  refine Ev.rounds ?_
  unfold laws_FnTextIs.f
  by_cases c1 : (l.length : Int) > 2147483647
  · simp only [if_pos c1]; exact Ev.now _
  by_cases c2 : (l.length : Int) > 65536
  · simp only [if_neg c1, if_pos c2]; exact Ev.now _
  have e : impl_Text.f l = some (textOf l) := by
    unfold impl_Text.f impl_copied.f dwarf_Text.f
    rw [if_pos (by omega)]
    simp only [Option.bind_some]
    rw [if_pos ⟨by omega, ok_of_bytes hb⟩]
    rfl
  simp only [if_neg c1, if_neg c2, e, Option.bind_some]
  exact text_l0 l (by omega) _ 0 rfl (by omega) (fun j _ h => by omega)

end Go.Proofs.Ytkgkdppjopilmaa.Pure
