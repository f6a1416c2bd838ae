/- Merging lists of ranges is the same in either order, and in either grouping of three lists, for lists that are in order with others between their ranges, none of which lies inside one of the list that it is merged with. No conditions beyond the statement's own. -/
import Derived.Test.YtepealmdnaondaaLink
namespace Go.Proofs.Ytepealmdnaondaa.Pure
open Go.RowKit Go.Proofs.Ytepealmdnaondaa.PAll Go.Proofs.YtepealmdnaondaaW.PrintWords Go.Proofs.YtepealmdnaondaaW.PrintLast Go.Proofs.Ytepealmdnaondaa.Ranges Go.Proofs.Ytepealmdnaondaa.Link

theorem mo_one : Ev (fun k => impl_MergeRanges.f k ([⟨1, 2⟩] : List S24) ([] : List S24)) (Link.up [(1, 2)]) := by
  have := mergeRanges_f ([⟨1, 2⟩] : List S24) ([] : List S24) (by simp) (by simp)
  rwa [show pl ([⟨1, 2⟩] : List S24) = [(1, 2)] from rfl, show pl ([] : List S24) = [] from rfl, show merged [((1 : Int), (2 : Int))] [] = [(1, 2)] by simp [merged, mer, rstep]] at this

theorem mo_j1 (a b c : List S24) (h0 : a.length ≤ 65536) (h1 : b.length ≤ 65536) (h2 : c.length ≤ 65536) (a0 : Apart (pl a)) (a1 : Apart (pl b)) (a2 : Apart (pl c)) (n1 : NI (pl a) (pl b)) (n2 : NI (pl b) (pl c)) :
    Ev (fun k => laws_FnMergeOrder.j1 k a b c false) true := by
  have hm := merged_length (pl a) (pl b)
  have hm2 := merged_length (pl b) (pl c)
  rw [pl_length, pl_length] at hm hm2
  have l1 : (Link.up (merged (pl a) (pl b))).length < 4000000000 := by rw [up_length]; omega
  have l2 : (Link.up (merged (pl b) (pl c))).length < 4000000000 := by rw [up_length]; omega
  obtain ⟨p, p1, p2⟩ := ni_f (Link.up (merged (pl a) (pl b))) c (by omega) (by omega)
  obtain ⟨q, q1, q2⟩ := ni_f a (Link.up (merged (pl b) (pl c))) (by omega) (by omega)
  rw [pl_up] at p2 q2
  have e : ∀ k, laws_FnMergeOrder.j1 (k + 1) a b c false = ((impl_MergeRanges.f k (([(⟨1, 2⟩ : S24)] : List (S24))) ([] : List (S24))).bind fun t216 => (if (t216.length : Int) = 1 then ((impl_MergeRanges.f k a b).bind fun t219 => ((impl_MergeRanges.f k b c).bind fun t222 => ((impl_MergeRanges.f k b a).bind fun t225 => ((laws_sameRanges.f k t219 t225).bind fun t228 => (if t228 = true then ((spec_NoneInside.f k t219 c).bind fun t229 => (if t229 = true then ((spec_NoneInside.f k a t222).bind fun t230 => (if t230 = true then ((impl_MergeRanges.f k t219 c).bind fun t231 => ((impl_MergeRanges.f k a t222).bind fun t234 => ((laws_sameRanges.f k t231 t234).bind fun t237 => (some t237)))) else (some true))) else (some true))) else (some false)))))) else (some false))) := by
    intro k
    simp only [laws_FnMergeOrder.j1]; rw [if_neg (by decide)]
  refine Ev.step e (Ev.bind mo_one (Ev_pos (by simp [Link.up]) (Ev.bind (mergeRanges_f a b (by omega) (by omega)) (Ev.bind (mergeRanges_f b c (by omega) (by omega)) (Ev.bind (mergeRanges_f b a (by omega) (by omega)) ?_)))))
  rw [merged_comm a1 a0 n1.symm]
  refine Ev.bind (same_f _ (by omega)) (Ev_pos rfl (Ev.bind p1 ?_))
  cases p with
  | false => exact Ev_neg (by decide) (Ev.now _)
  | true =>
    refine Ev_pos rfl (Ev.bind q1 ?_)
    cases q with
    | false => exact Ev_neg (by decide) (Ev.now _)
    | true =>
      refine Ev_pos rfl (Ev.bind (mergeRanges_f _ c (by omega) (by omega)) (Ev.bind (mergeRanges_f a _ (by omega) (by omega)) ?_))
      rw [pl_up, pl_up, merged_assoc a0 a1 a2 n1 n2 (p2.1 rfl) (q2.1 rfl)]
      have hm3 := merged_length (pl a) (merged (pl b) (pl c))
      rw [pl_length] at hm3
      exact Ev.bind (same_f _ (by rw [up_length]; omega)) (Ev.now _)

theorem mo_j0 (a b c : List S24) (x : Bool) : Ev (fun k => laws_FnMergeOrder.j0 k a b c x) true := by
  have hdone : Ev (fun k => laws_FnMergeOrder.j1 k a b c true) true := by
    refine Ev.step (f := fun _ => some true) (fun k => ?_) (Ev.now _)
    simp only [laws_FnMergeOrder.j1]; rw [if_pos trivial]
  cases x with
  | true =>
    refine Ev.step (f := fun _ => some true) (fun k => ?_) (Ev.now _)
    simp only [laws_FnMergeOrder.j0]; rw [if_pos trivial]
  | false =>
    by_cases c0 : (a.length : Int) > 65536
    · refine Ev.step (fun k => ?_) hdone
      simp only [laws_FnMergeOrder.j0]; rw [if_neg (by decide), if_pos c0]
    by_cases c1 : (b.length : Int) > 65536
    · refine Ev.step (fun k => ?_) hdone
      simp only [laws_FnMergeOrder.j0]; rw [if_neg (by decide), if_neg c0, if_pos c1]
    by_cases c2 : (c.length : Int) > 65536
    · refine Ev.step (fun k => ?_) hdone
      simp only [laws_FnMergeOrder.j0]; rw [if_neg (by decide), if_neg c0, if_neg c1, if_pos c2]
    obtain ⟨r, r1, r2⟩ := apart_f a (by omega)
    obtain ⟨s, s1, s2⟩ := apart_f b (by omega)
    obtain ⟨t, t1, t2⟩ := apart_f c (by omega)
    obtain ⟨u, u1, u2⟩ := ni_f a b (by omega) (by omega)
    obtain ⟨v, v1, v2⟩ := ni_f b c (by omega) (by omega)
    have e : ∀ k, laws_FnMergeOrder.j0 (k + 1) a b c false = ((spec_AreApart.f k a).bind fun t208 => (if t208 = true then ((spec_AreApart.f k b).bind fun t209 => (if t209 = true then ((spec_AreApart.f k c).bind fun t210 => (if t210 = true then ((spec_NoneInside.f k a b).bind fun t211 => (if t211 = true then ((spec_NoneInside.f k b c).bind fun t212 => (laws_FnMergeOrder.j1 k a b c (!t212))) else (laws_FnMergeOrder.j1 k a b c true))) else (laws_FnMergeOrder.j1 k a b c true))) else (laws_FnMergeOrder.j1 k a b c true))) else (laws_FnMergeOrder.j1 k a b c true))) := by
      intro k
      simp only [laws_FnMergeOrder.j0]; rw [if_neg (by decide), if_neg c0, if_neg c1, if_neg c2]
    refine Ev.step e (Ev.bind r1 ?_)
    cases r with
    | false => exact Ev_neg (by decide) hdone
    | true =>
      refine Ev_pos rfl (Ev.bind s1 ?_)
      cases s with
      | false => exact Ev_neg (by decide) hdone
      | true =>
        refine Ev_pos rfl (Ev.bind t1 ?_)
        cases t with
        | false => exact Ev_neg (by decide) hdone
        | true =>
          refine Ev_pos rfl (Ev.bind u1 ?_)
          cases u with
          | false => exact Ev_neg (by decide) hdone
          | true =>
            refine Ev_pos rfl (Ev.bind v1 ?_)
            cases v with
            | false => exact hdone
            | true => exact mo_j1 a b c (by omega) (by omega) (by omega) (r2.1 rfl) (s2.1 rfl) (t2.1 rfl) (u2.1 rfl) (v2.1 rfl)

theorem FnMergeOrder : laws_FnMergeOrder.Pure := by
  intro l0 l1 l2 _ _ _
  refine Ev.rounds ?_
  unfold laws_FnMergeOrder.f
  by_cases c : (l0.length : Int) > 2147483647
  · simp only [if_pos c]
    exact mo_j0 l0 l1 l2 true
  · simp only [if_neg c]
    by_cases c' : (l1.length : Int) > 2147483647
    · simp only [if_pos c']
      exact mo_j0 l0 l1 l2 true
    · simp only [if_neg c']
      exact mo_j0 l0 l1 l2 _

end Go.Proofs.Ytepealmdnaondaa.Pure
