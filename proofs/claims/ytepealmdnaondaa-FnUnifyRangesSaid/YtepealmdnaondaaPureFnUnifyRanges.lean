/- A scope into which ranges are merged has what MergeRanges gives, for every two lists of ranges that are in order with others between them. No conditions beyond the statement's own. -/
import Derived.Test.YtepealmdnaondaaLink
import Derived.Test.YtepealmdnaondaaGiven2
import Derived.Test.YtepealmdnaondaaPAllx8
namespace Go.Proofs.Ytepealmdnaondaa.Pure
open Go.RowKit Go.Proofs.Ytepealmdnaondaa.PAll Go.Proofs.YtepealmdnaondaaW.PrintWords Go.Proofs.YtepealmdnaondaaW.PrintLast Go.Proofs.Ytepealmdnaondaa.Ranges Go.Proofs.Ytepealmdnaondaa.Link

theorem un_j1 (x0 x1 : List S24) (h0 : x0.length ≤ 65536) (h1 : x1.length ≤ 65536) : Ev (fun k => laws_FnUnifyRanges.j1 k x0 x1 false) true := by
  have hm := merged_length (pl x0) (pl x1)
  rw [pl_length, pl_length] at hm
  have e : ∀ k, laws_FnUnifyRanges.j1 (k + 1) x0 x1 false = ((impl_MergeRanges.f k x0 x1).bind fun t267 => ((laws_sameRanges.f k (Link.up (merged (pl x0) (pl x1))) t267).bind fun t270 => (some t270))) := by
    intro k
    simp only [laws_FnUnifyRanges.j1]
    rw [if_neg (by decide)]
    unfold impl_UnifyRanges.f
    rw [if_pos (by simp), if_pos (by omega)]
    simp only [Option.bind_some]
    rw [if_pos]
    simp [Link.up, merged, mer, rstep, pl]
  exact Ev.step e (Ev.bind (mergeRanges_f x0 x1 (by omega) (by omega)) (Ev.bind (same_f _ (by rw [up_length]; omega)) (Ev.now _)))

theorem un_j0 (x0 x1 : List S24) (b : Bool) : Ev (fun k => laws_FnUnifyRanges.j0 k x0 x1 b) true := by
  have hdone : Ev (fun k => laws_FnUnifyRanges.j1 k x0 x1 true) true := by
    refine Ev.step (f := fun _ => some true) (fun k => ?_) (Ev.now _)
    simp only [laws_FnUnifyRanges.j1]; rw [if_pos trivial]
  cases b with
  | true =>
    refine Ev.step (f := fun _ => some true) (fun k => ?_) (Ev.now _)
    simp only [laws_FnUnifyRanges.j0]; rw [if_pos trivial]
  | false =>
    by_cases c0 : (x0.length : Int) > 65536
    · refine Ev.step (fun k => ?_) hdone
      simp only [laws_FnUnifyRanges.j0]; rw [if_neg (by decide), if_pos c0]
    by_cases c1 : (x1.length : Int) > 65536
    · refine Ev.step (fun k => ?_) hdone
      simp only [laws_FnUnifyRanges.j0]; rw [if_neg (by decide), if_neg c0, if_pos c1]
    obtain ⟨r, r1, _⟩ := apart_f x0 (by omega)
    obtain ⟨s, s1, _⟩ := apart_f x1 (by omega)
    have e : ∀ k, laws_FnUnifyRanges.j0 (k + 1) x0 x1 false = ((spec_AreApart.f k x0).bind fun t256 => (if t256 = true then ((spec_AreApart.f k x1).bind fun t257 => (laws_FnUnifyRanges.j1 k x0 x1 (!t257))) else (laws_FnUnifyRanges.j1 k x0 x1 true))) := by
      intro k
      simp only [laws_FnUnifyRanges.j0]; rw [if_neg (by decide), if_neg c0, if_neg c1]
    refine Ev.step e (Ev.bind r1 ?_)
    cases r with
    | false => exact Ev_neg (by decide) hdone
    | true =>
      refine Ev_pos rfl (Ev.bind s1 ?_)
      cases s with
      | false => exact hdone
      | true => exact un_j1 x0 x1 (by omega) (by omega)

theorem FnUnifyRanges : laws_FnUnifyRanges.Pure := by
  intro l0 l1 _ _
  refine Ev.rounds ?_
  unfold laws_FnUnifyRanges.f
  by_cases c : (l0.length : Int) > 2147483647
  · simp only [if_pos c]
    exact un_j0 l0 l1 true
  · simp only [if_neg c]
    exact un_j0 l0 l1 _

end Go.Proofs.Ytepealmdnaondaa.Pure
