import Derived.WalkKit
/- Plain facts on lists of half-open ranges (pairs of whole numbers): merging, and that ranges in order with gaps are told by their numbers. No Go in sight. -/
namespace Go.Proofs.Ytepealmdnaondaa.Ranges

def Has (l : List (Int × Int)) (n : Int) : Prop := ∃ r ∈ l, r.1 ≤ n ∧ n < r.2
def Apart (l : List (Int × Int)) : Prop := (∀ r ∈ l, r.1 < r.2) ∧ l.Pairwise (fun r s => r.2 < s.1)
def NI (a b : List (Int × Int)) : Prop := ∀ r ∈ a, ∀ s ∈ b, ¬ ((r.1 ≤ s.1 ∧ s.2 < r.2) ∨ (s.1 ≤ r.1 ∧ r.2 < s.2))

theorem Apart.nil : Apart [] := ⟨by simp, List.Pairwise.nil⟩
theorem Apart.tail {r : Int × Int} {l : List (Int × Int)} (h : Apart (r :: l)) : Apart l := ⟨fun x hx => h.1 x (List.mem_cons_of_mem _ hx), (List.pairwise_cons.1 h.2).2⟩
theorem Apart.head {r : Int × Int} {l : List (Int × Int)} (h : Apart (r :: l)) : r.1 < r.2 := h.1 r List.mem_cons_self
theorem Apart.rel {r : Int × Int} {l : List (Int × Int)} (h : Apart (r :: l)) : ∀ s ∈ l, r.2 < s.1 := (List.pairwise_cons.1 h.2).1
theorem Has.nil (n : Int) : ¬ Has [] n := by rintro ⟨r, h, _⟩; simp at h
theorem Has.cons {r : Int × Int} {l : List (Int × Int)} {n : Int} : Has (r :: l) n ↔ (r.1 ≤ n ∧ n < r.2) ∨ Has l n := by
  constructor
  · rintro ⟨s, hs, h⟩
    rcases List.mem_cons.1 hs with rfl | hs
    · exact .inl h
    · exact .inr ⟨s, hs, h⟩
  · rintro (h | ⟨s, hs, h⟩)
    · exact ⟨r, List.mem_cons_self, h⟩
    · exact ⟨s, List.mem_cons_of_mem _ hs, h⟩

/-- Ranges in order with gaps are told by their numbers. -/
theorem Apart.ext : ∀ (l m : List (Int × Int)), Apart l → Apart m → (∀ n, Has l n ↔ Has m n) → l = m
  | [], [], _, _, _ => rfl
  | [], s :: m, _, hm, h => absurd ((h s.1).2 (Has.cons.2 (.inl ⟨by omega, hm.head⟩))) (Has.nil _)
  | r :: l, [], hl, _, h => absurd ((h r.1).1 (Has.cons.2 (.inl ⟨by omega, hl.head⟩))) (Has.nil _)
  | r :: l, s :: m, hl, hm, h => by
    have key : ∀ {r s : Int × Int} {l m : List (Int × Int)}, Apart (r :: l) → Apart (s :: m) → (∀ n, Has (r :: l) n ↔ Has (s :: m) n) → s.1 ≤ r.1 ∧ (r.1 = s.1 → s.2 ≤ r.2) := by
      intro r s l m hl hm h
      have e1 : s.1 ≤ r.1 := by
        rcases Has.cons.1 ((h r.1).1 (Has.cons.2 (.inl ⟨by omega, hl.head⟩))) with h1 | ⟨t, ht, h1⟩
        · exact h1.1
        · have := hm.rel t ht
          have := hm.head
          omega
      refine ⟨e1, fun e => ?_⟩
      rcases Int.lt_or_le r.2 s.2 with hlt | hle
      · exfalso
        have h2 := (h r.2).2 (Has.cons.2 (.inl ⟨by have := hl.head; omega, hlt⟩))
        rcases Has.cons.1 h2 with h1 | ⟨t, ht, h1⟩
        · omega
        · have := hl.rel t ht
          omega
      · exact hle
    have k1 := key hl hm h
    have k2 := key hm hl (fun n => (h n).symm)
    have e1 : r.1 = s.1 := by omega
    have e2 : r.2 = s.2 := by have := k1.2 e1; have := k2.2 e1.symm; omega
    have e : r = s := Prod.ext e1 e2
    subst e
    have ht : ∀ n, Has l n ↔ Has m n := by
      intro n
      have h1 := h n
      rw [Has.cons, Has.cons] at h1
      constructor
      · intro hh
        obtain ⟨t, ht, h3⟩ := hh
        have := hl.rel t ht
        rcases h1.1 (.inr ⟨t, ht, h3⟩) with h4 | h4
        · omega
        · exact h4
      · intro hh
        obtain ⟨t, ht, h3⟩ := hh
        have := hm.rel t ht
        rcases h1.2 (.inr ⟨t, ht, h3⟩) with h4 | h4
        · omega
        · exact h4
    rw [Apart.ext l m hl.tail hm.tail ht]

/-- What was merged so far, the last one first; one more. -/
def rstep : List (Int × Int) → Int × Int → List (Int × Int)
  | [], c => [c]
  | z :: zs, c => if c.1 ≤ z.2 then (z.1, c.2) :: zs else c :: z :: zs
theorem rstep_length (acc : List (Int × Int)) (c : Int × Int) : (rstep acc c).length ≤ acc.length + 1 := by
  cases acc with
  | nil => simp [rstep]
  | cons z zs => simp only [rstep]; split <;> simp

/-- Merging: of two heads the second list's where it begins first. -/
def mer : List (Int × Int) → List (Int × Int) → List (Int × Int) → List (Int × Int)
  | [], [], acc => acc
  | a :: as, [], acc => mer as [] (rstep acc a)
  | [], b :: bs, acc => mer [] bs (rstep acc b)
  | a :: as, b :: bs, acc => if b.1 < a.1 then mer (a :: as) bs (rstep acc b) else mer as (b :: bs) (rstep acc a)
termination_by a b => a.length + b.length
theorem mer_length (n : Nat) : ∀ a b acc, a.length + b.length = n → (mer a b acc).length ≤ acc.length + n := by
  induction n with
  | zero =>
    intro a b acc h
    obtain rfl : a = [] := List.eq_nil_of_length_eq_zero (by omega)
    obtain rfl : b = [] := List.eq_nil_of_length_eq_zero (by simpa using h)
    rw [mer]; omega
  | succ n ih =>
    intro a b acc h
    match a, b, h with
    | a :: as, [], h =>
      rw [mer]
      have := ih as [] (rstep acc a) (by simp at h ⊢; omega)
      have := rstep_length acc a
      omega
    | [], b :: bs, h =>
      rw [mer]
      have := ih [] bs (rstep acc b) (by simp at h ⊢; omega)
      have := rstep_length acc b
      omega
    | a :: as, b :: bs, h =>
      rw [mer]
      split
      · have := ih (a :: as) bs (rstep acc b) (by simp at h ⊢; omega)
        have := rstep_length acc b
        omega
      · have := ih as (b :: bs) (rstep acc a) (by simp at h ⊢; omega)
        have := rstep_length acc a
        omega

/-- What was merged: in order with gaps, the last one first. -/
def Inv (acc : List (Int × Int)) : Prop := (∀ r ∈ acc, r.1 < r.2) ∧ acc.Pairwise (fun r s => s.2 < r.1)
def Before (acc rest : List (Int × Int)) : Prop := ∀ z, acc.head? = some z → ∀ c ∈ rest, z.1 ≤ c.1 ∧ z.2 ≤ c.2

theorem rstep_ok {acc : List (Int × Int)} {c : Int × Int} {rest : List (Int × Int)} (hi : Inv acc) (hb : Before acc (c :: rest)) (hc : c.1 < c.2) (hr : ∀ s ∈ rest, c.1 ≤ s.1 ∧ c.2 ≤ s.2) :
    Inv (rstep acc c) ∧ Before (rstep acc c) rest ∧ ∀ n, Has (rstep acc c) n ↔ Has acc n ∨ (c.1 ≤ n ∧ n < c.2) := by
  cases acc with
  | nil =>
    refine ⟨⟨by simp [rstep, hc], by simp [rstep]⟩, ?_, ?_⟩
    · intro z hz s hs
      simp [rstep] at hz
      subst hz
      exact hr s hs
    · intro n
      simp only [rstep, Has.cons]
      constructor
      · rintro (h | h)
        · exact .inr h
        · exact absurd h (Has.nil _)
      · rintro (h | h)
        · exact absurd h (Has.nil _)
        · exact .inl h
  | cons z zs =>
    have hz := hb z rfl c List.mem_cons_self
    have hzz := hi.1 z List.mem_cons_self
    have hp := List.pairwise_cons.1 hi.2
    simp only [rstep]
    split
    · rename_i hle
      refine ⟨⟨?_, ?_⟩, ?_, ?_⟩
      · intro r hr'
        rcases List.mem_cons.1 hr' with rfl | hr'
        · show z.1 < c.2
          omega
        · exact hi.1 r (List.mem_cons_of_mem _ hr')
      · exact List.pairwise_cons.2 ⟨fun s hs => hp.1 s hs, hp.2⟩
      · intro y hy s hs
        simp at hy
        subst hy
        have := hr s hs
        exact ⟨show z.1 ≤ s.1 by omega, this.2⟩
      · intro n
        rw [Has.cons, Has.cons]
        constructor
        · rintro (h | h)
          · have h' : z.1 ≤ n ∧ n < c.2 := h
            by_cases hn : n < z.2
            · exact .inl (.inl ⟨h'.1, hn⟩)
            · exact .inr (by omega)
          · exact .inl (.inr h)
        · rintro ((h | h) | h)
          · exact .inl (show z.1 ≤ n ∧ n < c.2 by omega)
          · exact .inr h
          · exact .inl (show z.1 ≤ n ∧ n < c.2 by omega)
    · rename_i hgt
      refine ⟨⟨?_, ?_⟩, ?_, ?_⟩
      · intro r hr'
        rcases List.mem_cons.1 hr' with rfl | hr'
        · exact hc
        · exact hi.1 r hr'
      · refine List.pairwise_cons.2 ⟨fun s hs => ?_, hi.2⟩
        rcases List.mem_cons.1 hs with rfl | hs
        · omega
        · have := hp.1 s hs
          omega
      · intro y hy s hs
        simp at hy
        subst hy
        exact hr s hs
      · intro n
        rw [Has.cons]
        constructor
        · rintro (h | h)
          · exact .inr h
          · exact .inl h
        · rintro (h | h)
          · exact .inr h
          · exact .inl h

theorem Before.mono {acc r1 r2 : List (Int × Int)} (h : Before acc r1) (hs : ∀ x ∈ r2, x ∈ r1) : Before acc r2 := fun z hz c hc => h z hz c (hs c hc)

theorem mer_ok (n : Nat) : ∀ a b acc, a.length + b.length = n → Apart a → Apart b → NI a b → Inv acc → Before acc (a ++ b) →
    Inv (mer a b acc) ∧ ∀ m, Has (mer a b acc) m ↔ Has acc m ∨ Has a m ∨ Has b m := by
  induction n with
  | zero =>
    intro a b acc h _ _ _ hi _
    obtain rfl : a = [] := List.eq_nil_of_length_eq_zero (by omega)
    obtain rfl : b = [] := List.eq_nil_of_length_eq_zero (by simpa using h)
    rw [mer]
    refine ⟨hi, fun m => ⟨.inl, ?_⟩⟩
    rintro (h | h | h)
    · exact h
    · exact absurd h (Has.nil _)
    · exact absurd h (Has.nil _)
  | succ n ih =>
    intro a b acc h ha hb hn hi hbf
    match a, b, h, ha, hb, hn, hbf with
    | a :: as, [], h, ha, hb, hn, hbf =>
      rw [mer]
      have hr : ∀ s ∈ as, a.1 ≤ s.1 ∧ a.2 ≤ s.2 := fun s hs => by
        have := ha.rel s hs; have := ha.head; have := ha.tail.1 s hs; omega
      obtain ⟨h1, h2, h3⟩ := rstep_ok (rest := as) hi (hbf.mono (by simp)) ha.head hr
      obtain ⟨h4, h5⟩ := ih as [] (rstep acc a) (by simp at h ⊢; omega) ha.tail hb (fun r hr s hs => by simp at hs) h1 (h2.mono (by simp))
      refine ⟨h4, fun m => ?_⟩
      rw [h5, h3, Has.cons]
      constructor
      · rintro ((h | h) | h | h)
        · exact .inl h
        · exact .inr (.inl (.inl h))
        · exact .inr (.inl (.inr h))
        · exact .inr (.inr h)
      · rintro (h | (h | h) | h)
        · exact .inl (.inl h)
        · exact .inl (.inr h)
        · exact .inr (.inl h)
        · exact .inr (.inr h)
    | [], b :: bs, h, ha, hb, hn, hbf =>
      rw [mer]
      have hr : ∀ s ∈ bs, b.1 ≤ s.1 ∧ b.2 ≤ s.2 := fun s hs => by
        have := hb.rel s hs; have := hb.head; have := hb.tail.1 s hs; omega
      obtain ⟨h1, h2, h3⟩ := rstep_ok (rest := bs) hi (hbf.mono (by simp)) hb.head hr
      obtain ⟨h4, h5⟩ := ih [] bs (rstep acc b) (by simp at h ⊢; omega) ha hb.tail (fun r hr s hs => by simp at hr) h1 (h2.mono (by simp))
      refine ⟨h4, fun m => ?_⟩
      rw [h5, h3, Has.cons]
      constructor
      · rintro ((h | h) | h | h)
        · exact .inl h
        · exact .inr (.inr (.inl h))
        · exact .inr (.inl h)
        · exact .inr (.inr (.inr h))
      · rintro (h | h | h | h)
        · exact .inl (.inl h)
        · exact .inr (.inl h)
        · exact .inl (.inr h)
        · exact .inr (.inr h)
    | a :: as, b :: bs, h, ha, hb, hn, hbf =>
      rw [mer]
      split
      · rename_i hlt
        have hr : ∀ s ∈ (a :: as) ++ bs, b.1 ≤ s.1 ∧ b.2 ≤ s.2 := fun s hs => by
          rcases List.mem_append.1 hs with hs | hs
          · have h0 := hn s hs b List.mem_cons_self
            have h1 : a.1 ≤ s.1 := by
              rcases List.mem_cons.1 hs with rfl | hs
              · omega
              · have := ha.rel s hs; have := ha.head; omega
            omega
          · have := hb.rel s hs; have := hb.head; have := hb.tail.1 s hs; omega
        obtain ⟨h1, h2, h3⟩ := rstep_ok (rest := (a :: as) ++ bs) hi (hbf.mono (by
          intro x hx
          rcases List.mem_cons.1 hx with rfl | hx
          · simp
          · rcases List.mem_append.1 hx with hx | hx
            · exact List.mem_append_left _ hx
            · exact List.mem_append_right _ (List.mem_cons_of_mem _ hx))) hb.head hr
        obtain ⟨h4, h5⟩ := ih (a :: as) bs (rstep acc b) (by simp at h ⊢; omega) ha hb.tail (fun r hr s hs => hn r hr s (List.mem_cons_of_mem _ hs)) h1 h2
        refine ⟨h4, fun m => ?_⟩
        rw [h5, h3, Has.cons (r := b)]
        constructor
        · rintro ((h | h) | h | h)
          · exact .inl h
          · exact .inr (.inr (.inl h))
          · exact .inr (.inl h)
          · exact .inr (.inr (.inr h))
        · rintro (h | h | h | h)
          · exact .inl (.inl h)
          · exact .inr (.inl h)
          · exact .inl (.inr h)
          · exact .inr (.inr h)
      · rename_i hge
        have hr : ∀ s ∈ as ++ (b :: bs), a.1 ≤ s.1 ∧ a.2 ≤ s.2 := fun s hs => by
          rcases List.mem_append.1 hs with hs | hs
          · have := ha.rel s hs; have := ha.head; have := ha.tail.1 s hs; omega
          · have h0 := hn a List.mem_cons_self s hs
            have h1 : b.1 ≤ s.1 := by
              rcases List.mem_cons.1 hs with rfl | hs
              · omega
              · have := hb.rel s hs; have := hb.head; omega
            omega
        obtain ⟨h1, h2, h3⟩ := rstep_ok (rest := as ++ (b :: bs)) hi (hbf.mono (by
          intro x hx
          rcases List.mem_cons.1 hx with rfl | hx
          · simp
          · rcases List.mem_append.1 hx with hx | hx
            · exact List.mem_append_left _ (List.mem_cons_of_mem _ hx)
            · exact List.mem_append_right _ hx)) ha.head hr
        obtain ⟨h4, h5⟩ := ih as (b :: bs) (rstep acc a) (by simp at h ⊢; omega) ha.tail hb (fun r hr s hs => hn r (List.mem_cons_of_mem _ hr) s hs) h1 h2
        refine ⟨h4, fun m => ?_⟩
        rw [h5, h3, Has.cons (r := a)]
        constructor
        · rintro ((h | h) | h | h)
          · exact .inl h
          · exact .inr (.inl (.inl h))
          · exact .inr (.inl (.inr h))
          · exact .inr (.inr h)
        · rintro (h | (h | h) | h)
          · exact .inl (.inl h)
          · exact .inl (.inr h)
          · exact .inr (.inl h)
          · exact .inr (.inr h)

/-- Two lists merged. -/
def merged (a b : List (Int × Int)) : List (Int × Int) := (mer a b []).reverse
theorem merged_length (a b : List (Int × Int)) : (merged a b).length ≤ a.length + b.length := by
  have := mer_length _ a b [] rfl
  simpa [merged] using this
theorem Has.reverse {l : List (Int × Int)} {n : Int} : Has l.reverse n ↔ Has l n := by
  unfold Has; simp
theorem merged_ok {a b : List (Int × Int)} (ha : Apart a) (hb : Apart b) (hn : NI a b) : Apart (merged a b) ∧ ∀ m, Has (merged a b) m ↔ Has a m ∨ Has b m := by
  obtain ⟨h1, h2⟩ := mer_ok _ a b [] rfl ha hb hn ⟨by simp, List.Pairwise.nil⟩ (fun z hz => by simp at hz)
  refine ⟨⟨fun r hr => h1.1 r (by simpa [merged] using hr), ?_⟩, fun m => ?_⟩
  · unfold merged
    rw [List.pairwise_reverse]
    exact h1.2
  · unfold merged
    rw [Has.reverse, h2]
    constructor
    · rintro (h | h)
      · exact absurd h (Has.nil _)
      · exact h
    · exact .inr
theorem NI.symm {a b : List (Int × Int)} (h : NI a b) : NI b a := fun r hr s hs h' => h s hs r hr (by omega)
theorem merged_comm {a b : List (Int × Int)} (ha : Apart a) (hb : Apart b) (hn : NI a b) : merged a b = merged b a := by
  obtain ⟨h1, h2⟩ := merged_ok ha hb hn
  obtain ⟨h3, h4⟩ := merged_ok hb ha hn.symm
  refine Apart.ext _ _ h1 h3 fun m => ?_
  rw [h2, h4]
  exact Or.comm
theorem merged_assoc {a b c : List (Int × Int)} (ha : Apart a) (hb : Apart b) (hc : Apart c) (hab : NI a b) (hbc : NI b c) (h1 : NI (merged a b) c) (h2 : NI a (merged b c)) :
    merged (merged a b) c = merged a (merged b c) := by
  obtain ⟨a1, a2⟩ := merged_ok ha hb hab
  obtain ⟨b1, b2⟩ := merged_ok hb hc hbc
  obtain ⟨c1, c2⟩ := merged_ok a1 hc h1
  obtain ⟨d1, d2⟩ := merged_ok ha b1 h2
  refine Apart.ext _ _ c1 d1 fun m => ?_
  rw [c2, d2, a2, b2, or_assoc]

end Go.Proofs.Ytepealmdnaondaa.Ranges
