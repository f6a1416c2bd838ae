/- A number is in merged ranges just if it is in one of either list, and they are in order with others between them, for every two lists that are so themselves and of which no range lies inside one of the other's. No conditions beyond the statement's own. -/
import Derived.Test.YtepealmdnaondaaLink
namespace Go.Proofs.Ytepealmdnaondaa.Pure
open Go.RowKit Go.Proofs.Ytepealmdnaondaa.PAll Go.Proofs.YtepealmdnaondaaW.PrintWords Go.Proofs.YtepealmdnaondaaW.PrintLast Go.Proofs.Ytepealmdnaondaa.Ranges Go.Proofs.Ytepealmdnaondaa.Link

theorem mr_done (k : Nat) (x0 x1 : List S24) (x2 : Int) : laws_FnMergeRanges.j1 (k + 1) x0 x1 x2 true = some true := by
  simp only [laws_FnMergeRanges.j1]; rw [if_pos trivial]
theorem one_one : merged [((1 : Int), (2 : Int))] [] = [(1, 2)] := by
  simp [merged, mer, rstep]

theorem mr_j1 (x0 x1 : List S24) (x2 : Int) (h0 : x0.length ≤ 65536) (h1 : x1.length ≤ 65536) (a0 : Apart (pl x0)) (a1 : Apart (pl x1)) (hn : NI (pl x0) (pl x1)) : Ev (fun k => laws_FnMergeRanges.j1 k x0 x1 x2 false) true := by
  obtain ⟨b1, b2⟩ := merged_ok a0 a1 hn
  have hm := merged_length (pl x0) (pl x1)
  rw [pl_length, pl_length] at hm
  obtain ⟨r, r1, r2⟩ := apart_f (Link.up (merged (pl x0) (pl x1))) (by rw [up_length]; omega)
  rw [pl_up] at r2
  obtain rfl := r2.2 b1
  obtain ⟨p, p1, p2⟩ := in_f (Link.up (merged (pl x0) (pl x1))) (by rw [up_length]; omega) x2
  rw [pl_up] at p2
  obtain ⟨q, q1, q2⟩ := in_f x0 (by omega) x2
  obtain ⟨s, s1, s2⟩ := in_f x1 (by omega) x2
  have hone : Ev (fun k => impl_MergeRanges.f k ([⟨1, 2⟩] : List S24) ([] : List S24)) (Link.up [(1, 2)]) := by
    have := mergeRanges_f ([⟨1, 2⟩] : List S24) ([] : List S24) (by simp) (by simp)
    rwa [show pl ([⟨1, 2⟩] : List S24) = [(1, 2)] from rfl, show pl ([] : List S24) = [] from rfl, one_one] at this
  have e : ∀ k, laws_FnMergeRanges.j1 (k + 1) x0 x1 x2 false = ((impl_MergeRanges.f k x0 x1).bind fun t243 => ((impl_MergeRanges.f k (([(⟨1, 2⟩ : S24)] : List (S24))) ([] : List (S24))).bind fun t249 => (if (t249.length : Int) = 1 then ((spec_AreApart.f k t243).bind fun t252 => (if t252 = true then ((spec_In.f k t243 x2).bind fun t253 => ((spec_In.f k x0 x2).bind fun t254 => (if t254 = true then (some (t253 == true)) else ((spec_In.f k x1 x2).bind fun t255 => (some (t253 == t255)))))) else (some false))) else (some false)))) := by
    intro k
    simp only [laws_FnMergeRanges.j1]
    rw [if_neg (by decide)]
  refine Ev.step e (Ev.bind (mergeRanges_f x0 x1 (by omega) (by omega)) (Ev.bind hone ?_))
  refine Ev_pos (by simp [Link.up]) (Ev.bind r1 (Ev_pos rfl (Ev.bind p1 (Ev.bind q1 ?_))))
  rw [b2] at p2
  cases q with
  | true =>
    obtain rfl := p2.2 (.inl (q2.1 rfl))
    exact Ev_pos rfl (Ev.now _)
  | false =>
    refine Ev_neg (by decide) (Ev.bind s1 ?_)
    have hq : ¬ Has (pl x0) x2 := fun h => by have := q2.2 h; cases this
    have : (p == s) = true := by
      cases p <;> cases s
      · rfl
      · have := p2.2 (.inr (s2.1 rfl)); cases this
      · rcases p2.1 rfl with h | h
        · exact absurd h hq
        · have := s2.2 h; cases this
      · rfl
    rw [this]
    exact Ev.now _

theorem mr_j0 (x0 x1 : List S24) (x2 : Int) (b : Bool) : Ev (fun k => laws_FnMergeRanges.j0 k x0 x1 x2 b) true := by
  have hdone : Ev (fun k => laws_FnMergeRanges.j1 k x0 x1 x2 true) true := Ev.step (f := fun _ => some true) (fun k => mr_done k x0 x1 x2) (Ev.now _)
  cases b with
  | true =>
    refine Ev.step (f := fun _ => some true) (fun k => ?_) (Ev.now _)
    simp only [laws_FnMergeRanges.j0]; rw [if_pos trivial]
  | false =>
    by_cases c0 : (x0.length : Int) > 65536
    · refine Ev.step (fun k => ?_) hdone
      simp only [laws_FnMergeRanges.j0]; rw [if_neg (by decide), if_pos c0]
    by_cases c1 : (x1.length : Int) > 65536
    · refine Ev.step (fun k => ?_) hdone
      simp only [laws_FnMergeRanges.j0]; rw [if_neg (by decide), if_neg c0, if_pos c1]
    obtain ⟨r, r1, r2⟩ := apart_f x0 (by omega)
    obtain ⟨s, s1, s2⟩ := apart_f x1 (by omega)
    obtain ⟨t, t1, t2⟩ := ni_f x0 x1 (by omega) (by omega)
    have e : ∀ k, laws_FnMergeRanges.j0 (k + 1) x0 x1 x2 false = ((spec_AreApart.f k x0).bind fun t240 => (if t240 = true then ((spec_AreApart.f k x1).bind fun t241 => (if t241 = true then ((spec_NoneInside.f k x0 x1).bind fun t242 => (laws_FnMergeRanges.j1 k x0 x1 x2 (!t242))) else (laws_FnMergeRanges.j1 k x0 x1 x2 true))) else (laws_FnMergeRanges.j1 k x0 x1 x2 true))) := by
      intro k
      simp only [laws_FnMergeRanges.j0]; rw [if_neg (by decide), if_neg c0, if_neg c1]
    refine Ev.step e (Ev.bind r1 ?_)
    cases r with
    | false => exact Ev_neg (by decide) hdone
    | true =>
      refine Ev_pos rfl (Ev.bind s1 ?_)
      cases s with
      | false => exact Ev_neg (by decide) hdone
      | true =>
        refine Ev_pos rfl (Ev.bind t1 ?_)
        cases t with
        | false => exact hdone
        | true => exact mr_j1 x0 x1 x2 (by omega) (by omega) (r2.1 rfl) (s2.1 rfl) (t2.1 rfl)

theorem FnMergeRanges : laws_FnMergeRanges.Pure := by
  intro l0 l1 a2 _ _ _
  refine Ev.rounds ?_
  unfold laws_FnMergeRanges.f
  by_cases c : (l0.length : Int) > 2147483647
  · simp only [if_pos c]
    exact mr_j0 l0 l1 a2 true
  · simp only [if_neg c]
    exact mr_j0 l0 l1 a2 _

end Go.Proofs.Ytepealmdnaondaa.Pure
