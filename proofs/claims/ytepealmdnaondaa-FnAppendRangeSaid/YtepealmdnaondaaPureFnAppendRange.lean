/- A range that begins where the last one ends makes that longer, one further on is added, and one without a number is not, for every list and range. No conditions beyond the statement's own. -/
import Derived.Test.YtepealmdnaondaaLink
import Derived.Test.YtepealmdnaondaaGiven3
import Derived.Test.YtepealmdnaondaaPAllx3
namespace Go.Proofs.Ytepealmdnaondaa.Pure
open Go.RowKit Go.Proofs.Ytepealmdnaondaa.PAll Go.Proofs.YtepealmdnaondaaW.PrintWords Go.Proofs.YtepealmdnaondaaW.PrintLast Go.Proofs.Ytepealmdnaondaa.Ranges Go.Proofs.Ytepealmdnaondaa.Link

/-- The range stands behind what stood there. -/
theorem ar_behind (l : List S24) (i b0 b1 : Int) (hl : l.length ≤ 65536) : Ev (fun k => laws_FnAppendRange.j0 k l i (l ++ [⟨b0, b1⟩]) true b0 b1) true := by
  have e : ∀ k, laws_FnAppendRange.j0 (k + 1) l i (l ++ [⟨b0, b1⟩]) true b0 b1 = ((laws_sameRanges.f k (l ++ [⟨b0, b1⟩]) (l ++ [⟨b0, b1⟩])).bind fun t => some t) := by
    intro k
    simp only [laws_FnAppendRange.j0]
    rw [if_pos trivial]
    simp only [Option.bind_some, List.nil_append, List.length_nil, List.length_cons]
    rw [if_pos (by omega), if_pos (by omega)]
  exact Ev.step e (Ev.bind (same_f _ (by simp; omega)) (Ev.now _))

theorem FnAppendRange : laws_FnAppendRange.Pure := by
  intro l a b _ _ _
  refine Ev.rounds ?_
  unfold laws_FnAppendRange.f
  by_cases c0 : (l.length : Int) > 2147483647
  · simp only [if_pos c0]; exact Ev.now _
  by_cases c1 : (l.length : Int) > 65536
  · simp only [if_neg c0, if_pos c1]; exact Ev.now _
  have hl : l.length ≤ 65536 := by omega
  have e1 : impl_AppendRange.f l a b = some (Link.up (added (pl l) a b)) := by unfold impl_AppendRange.f; rw [if_pos (by omega)]
  have e2 : impl_AppendRange.f [] 1 2 = some [⟨1, 2⟩] := rfl
  simp only [if_neg c0, if_neg c1, e1, e2, Option.bind_some, List.length_cons, List.length_nil]
  refine Ev_pos (by decide) ?_
  by_cases c2 : a ≥ b
  · refine Ev_pos c2 ?_
    have e3 : Link.up (added (pl l) a b) = l := by rw [show added (pl l) a b = pl l by simp [added, c2], up_pl]
    rw [e3]
    exact Ev.bind (same_f _ (by omega)) (Ev.now _)
  refine Ev_neg c2 ?_
  rcases List.eq_nil_or_concat l with hn | ⟨l', z, hn⟩
  · subst hn
    refine Ev_pos rfl ?_
    have e3 : Link.up (added (pl []) a b) = [] ++ [⟨a, b⟩] := by simp [added, c2, pl, Link.up]
    rw [e3]
    exact ar_behind [] _ a b (by simp)
  · have hlen : l.length = l'.length + 1 := by rw [hn]; simp
    have hi : wrap64 ((l.length : Int) - 1) = (l'.length : Int) := by unfold wrap64; omega
    have hz : rd_T24 l (l'.length : Int) = z := by rw [rd_at l l'.length (by omega)]; simp [hn]
    refine Ev_neg (by omega) ?_
    rw [hi]
    refine Ev_pos (by omega) (Ev_pos (by omega) ?_)
    rw [hz]
    have hlast : (pl l).getLast? = some (z.f0, z.f1) := by rw [hn]; simp [pl]
    have hpd : (pl l).dropLast = pl l' := by rw [hn]; simp [pl]
    have behind : z.f1 ≠ a → Link.up (added (pl l) a b) = l ++ [⟨a, b⟩] := by
      intro h
      have : added (pl l) a b = pl l ++ [(a, b)] := by
        unfold added
        rw [if_neg c2, hlast]
        simp only
        rw [if_neg h]
      rw [this]
      simp [Link.up, pl, Function.comp_def]
    by_cases c3 : a > z.f1
    · rw [decide_eq_true c3, behind (by omega)]
      exact ar_behind l _ a b hl
    rw [decide_eq_false c3]
    by_cases c4 : a < z.f1
    · refine Ev.step (f := fun _ => some true) (fun k => ?_) (Ev.now _)
      simp only [laws_FnAppendRange.j0]
      rw [if_neg (by decide), hi, if_pos (by omega), if_pos (by omega), hz, if_pos c4]
    have c5 : z.f1 = a := by omega
    have e3 : Link.up (added (pl l) a b) = l' ++ [⟨z.f0, b⟩] := by
      have : added (pl l) a b = pl l' ++ [(z.f0, b)] := by
        unfold added
        rw [if_neg c2, hlast]
        simp only
        rw [if_pos c5, hpd]
      rw [this]
      simp [Link.up, pl, Function.comp_def]
    rw [e3]
    have hz2 : rd_T24 (l' ++ [(⟨z.f0, b⟩ : S24)]) (l'.length : Int) = ⟨z.f0, b⟩ := by rw [rd_at _ l'.length (by simp)]; simp
    refine Ev.step (f := fun k => (laws_sameRanges.f k l' l').bind fun t => if t = true then some true else some false) (fun k => ?_) (Ev.bind (same_f _ (by omega)) (Ev_pos rfl (Ev.now _)))
    simp only [laws_FnAppendRange.j0]
    rw [if_neg (by decide), hi, if_pos (by omega), if_pos (by omega), hz, if_neg c4, if_pos (by simp; omega), if_pos (by simp; omega), if_pos (by omega), hz2]
    have h1 : (l' ++ [(⟨z.f0, b⟩ : S24)]).take (l'.length : Int).toNat = l' := by simp
    have h2 : l.take (l'.length : Int).toNat = l' := by rw [hn]; simp
    rw [h1, h2, if_pos (by simp; omega)]
    simp

end Go.Proofs.Ytepealmdnaondaa.Pure
