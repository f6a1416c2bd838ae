/- What the printed functions on ranges come to, told in pairs of whole numbers: in order with gaps, none inside another, merged. -/
import Derived.Test.YtepealmdnaondaaPAllx7
import Derived.Test.YtepealmdnaondaaRanges
namespace Go.Proofs.Ytepealmdnaondaa.Link
open Go.RowKit Go.Proofs.Ytepealmdnaondaa.PAll Go.Proofs.YtepealmdnaondaaW.PrintWords Go.Proofs.YtepealmdnaondaaW.PrintLast Go.Proofs.Ytepealmdnaondaa.Ranges

def pl (l : List S24) : List (Int × Int) := l.map fun x => (x.f0, x.f1)
def up (l : List (Int × Int)) : List S24 := l.map fun x => ⟨x.1, x.2⟩
def pk (l : List S56) : List (Int × Int) := l.map fun x => (x.f0, x.f1)
def uk (l : List (Int × Int)) : List S56 := l.map fun x => ⟨x.1, x.2⟩
theorem pl_length (l : List S24) : (pl l).length = l.length := by simp [pl]
theorem up_length (l : List (Int × Int)) : (up l).length = l.length := by simp [up]
theorem uk_length (l : List (Int × Int)) : (uk l).length = l.length := by simp [uk]
theorem pl_up (l : List (Int × Int)) : pl (up l) = l := by simp [pl, up, Function.comp_def]
theorem up_pl (l : List S24) : up (pl l) = l := by simp [pl, up, Function.comp_def]
theorem w1 {n : Nat} (h : n < 9223372036854775807) : wrap64 ((n : Int) + 1) = ((n + 1 : Nat) : Int) := by unfold wrap64; omega
theorem rd_at (l : List S24) (i : Nat) (h : i < l.length) : rd_T24 l (i : Int) = l[i] := by
  unfold rd_T24; simp [List.getD_eq_getElem?_getD, List.getElem?_eq_getElem h]
theorem rd_up (l : List (Int × Int)) (i : Nat) (h : i < l.length) : rd_T24 (up l) (i : Int) = ⟨l[i].1, l[i].2⟩ := by
  rw [rd_at _ _ (by rw [up_length]; exact h)]; simp [up]
theorem rd_uk (l : List (Int × Int)) (i : Nat) (h : i < l.length) : rd_T56 (uk l) (i : Int) = ⟨l[i].1, l[i].2⟩ := by
  unfold rd_T56; simp [List.getD_eq_getElem?_getD, uk, List.getElem?_eq_getElem h]

theorem Ev_pos {α : Type} {c : Prop} [Decidable c] {f g : Nat → Option α} {r : α} (h : c) (k : Ev f r) : Ev (fun n => if c then f n else g n) r := Ev.congr (fun _ => if_pos h) k
theorem Ev_neg {α : Type} {c : Prop} [Decidable c] {f g : Nat → Option α} {r : α} (h : ¬ c) (k : Ev g r) : Ev (fun n => if c then f n else g n) r := Ev.congr (fun _ => if_neg h) k
/-! ### in order, with gaps -/
def okAt (l : List (Int × Int)) (j : Nat) : Prop := ∀ h : j < l.length, l[j].1 < l[j].2 ∧ (∀ h0 : 0 < j, (l[j - 1]'(by omega)).2 < l[j].1)
theorem apart_iff (l : List (Int × Int)) : Apart l ↔ ∀ j, okAt l j := by
  constructor
  · intro h j hj
    refine ⟨h.1 _ (List.getElem_mem hj), fun h0 => ?_⟩
    exact List.pairwise_iff_getElem.1 h.2 (j - 1) j (by omega) hj (by omega)
  · intro h
    have hlt : ∀ j (hj : j < l.length), l[j].1 < l[j].2 := fun j hj => (h j hj).1
    refine ⟨fun r hr => ?_, ?_⟩
    · obtain ⟨j, hj, rfl⟩ := List.mem_iff_getElem.1 hr
      exact hlt j hj
    · rw [List.pairwise_iff_getElem]
      intro i j hi hj hij
      have key : ∀ d (hd : i + 1 + d < l.length), l[i].2 < (l[i + 1 + d]'hd).1 := by
        intro d
        induction d with
        | zero => intro hd; exact (h (i + 1) hd).2 (by omega)
        | succ d ih =>
          intro hd
          have h1 := ih (by omega)
          have h2 := hlt (i + 1 + d) (by omega)
          have h3 := (h (i + 1 + (d + 1)) hd).2 (by omega)
          simp only [show i + 1 + (d + 1) - 1 = i + 1 + d by omega] at h3
          omega
      have := key (j - (i + 1)) (by omega)
      simpa [show i + 1 + (j - (i + 1)) = j by omega] using this

theorem apart_l0 (l : List (Int × Int)) (hl : l.length < 9223372036854775807) (d : Nat) : ∀ i, l.length - i = d → i ≤ l.length →
    ∃ r, Ev (fun k => spec_AreApart.l0 k (up l) (up l) ((up l).length : Int) (i : Int)) r ∧ (r = true ↔ ∀ j, i ≤ j → okAt l j) := by
  induction d with
  | zero =>
    intro i hd hi
    refine ⟨true, Ev.step (f := fun _ => some true) (fun k => ?_) (Ev.now _), ?_⟩
    · simp only [spec_AreApart.l0, up_length]; rw [if_neg (by omega)]
    · simp only [true_iff]; intro j hj hjl; exact absurd hjl (by omega)
  | succ d ih =>
    intro i hd hi
    have hlt : i < l.length := by omega
    obtain ⟨r, h1, h2⟩ := ih (i + 1) (by omega) (by omega)
    by_cases c1 : l[i].1 ≥ l[i].2
    · refine ⟨false, Ev.step (f := fun _ => some false) (fun k => ?_) (Ev.now _), ?_⟩
      · simp only [spec_AreApart.l0, up_length]; rw [if_pos (by omega), if_pos (by omega), if_pos (by omega), rd_up l i hlt, if_pos c1]
      · refine ⟨(fun h => by cases h), fun h => ?_⟩
        have := (h i (Nat.le_refl _) hlt).1
        omega
    · by_cases c2 : 0 < i
      · by_cases c3 : (l[i - 1]'(by omega)).2 ≥ l[i].1
        · refine ⟨false, Ev.step (f := fun _ => some false) (fun k => ?_) (Ev.now _), ?_⟩
          · have e : wrap64 ((i : Int) - 1) = ((i - 1 : Nat) : Int) := by unfold wrap64; omega
            simp only [spec_AreApart.l0, up_length]; rw [if_pos (by omega), if_pos (by omega), if_pos (by omega), rd_up l i hlt, if_neg c1, if_pos (by omega), e, if_pos (by omega), if_pos (by omega), rd_up l (i - 1) (by omega), if_pos c3]
          · refine ⟨(fun h => by cases h), fun h => ?_⟩
            have := (h i (Nat.le_refl _) hlt).2 c2
            omega
        · refine ⟨r, Ev.step (fun k => ?_) h1, ?_⟩
          · have e : wrap64 ((i : Int) - 1) = ((i - 1 : Nat) : Int) := by unfold wrap64; omega
            simp only [spec_AreApart.l0, up_length]; rw [if_pos (by omega), if_pos (by omega), if_pos (by omega), rd_up l i hlt, if_neg c1, if_pos (by omega), e, if_pos (by omega), if_pos (by omega), rd_up l (i - 1) (by omega), if_neg c3, w1 (by omega)]
          · rw [h2]
            refine ⟨fun h j hj => ?_, fun h j hj => h j (by omega)⟩
            rcases Nat.eq_or_lt_of_le hj with rfl | hj
            · exact fun _ => ⟨by omega, fun _ => by omega⟩
            · exact h j hj
      · refine ⟨r, Ev.step (fun k => ?_) h1, ?_⟩
        · simp only [spec_AreApart.l0, up_length]; rw [if_pos (by omega), if_pos (by omega), if_pos (by omega), rd_up l i hlt, if_neg c1, if_neg (by omega), w1 (by omega)]
        · rw [h2]
          refine ⟨fun h j hj => ?_, fun h j hj => h j (by omega)⟩
          rcases Nat.eq_or_lt_of_le hj with rfl | hj
          · exact fun _ => ⟨by omega, fun h0 => by omega⟩
          · exact h j hj
theorem apart_f (l : List S24) (hl : l.length < 9223372036854775807) : ∃ r, Ev (fun k => spec_AreApart.f k l) r ∧ (r = true ↔ Apart (pl l)) := by
  obtain ⟨r, h1, h2⟩ := apart_l0 (pl l) (by rw [pl_length]; exact hl) _ 0 rfl (by omega)
  rw [up_pl] at h1
  exact ⟨r, h1, by rw [h2, apart_iff]; exact ⟨fun h j => h j (by omega), fun h j _ => h j⟩⟩

/-! ### none inside another -/
def niAt (r s : Int × Int) : Prop := ¬ ((r.1 ≤ s.1 ∧ s.2 < r.2) ∨ (s.1 ≤ r.1 ∧ r.2 < s.2))
theorem ni_l1 (a b : List (Int × Int)) (hb : b.length < 9223372036854775807) (i : Nat) (r : Int × Int) (q : Bool) (hq : Ev (fun k => spec_NoneInside.l0 k (up b) (up a) ((up a).length : Int) (wrap64 ((i : Int) + 1))) q) (d : Nat) :
    ∀ j, b.length - j = d → j ≤ b.length → ∃ x, Ev (fun k => spec_NoneInside.l1 k (up b) (up a) ((up a).length : Int) (i : Int) (up b) ((up b).length : Int) (j : Int) r.1 r.2) x ∧ (x = true ↔ (∀ m, j ≤ m → ∀ h : m < b.length, niAt r b[m]) ∧ q = true) := by
  induction d with
  | zero =>
    intro j hd hj
    refine ⟨q, Ev.step (fun k => ?_) hq, ?_⟩
    · simp only [spec_NoneInside.l1, up_length]; rw [if_neg (by omega)]
    · exact ⟨fun h => ⟨fun m hm hml => by omega, h⟩, fun h => h.2⟩
  | succ d ih =>
    intro j hd hj
    have hlt : j < b.length := by omega
    obtain ⟨x, h1, h2⟩ := ih (j + 1) (by omega) (by omega)
    by_cases c : niAt r b[j]
    · refine ⟨x, Ev.step (fun k => ?_) h1, ?_⟩
      · simp only [spec_NoneInside.l1, up_length]
        rw [if_pos (by omega), if_pos (by omega), if_pos (by omega), rd_up b j hlt, w1 (by omega)]
        unfold niAt at c
        simp only
        by_cases c1 : r.1 ≤ b[j].1
        · rw [if_pos c1, if_neg (by omega)]
          by_cases c2 : b[j].1 ≤ r.1
          · rw [if_pos c2, if_neg (by omega)]
          · rw [if_neg c2]
        · rw [if_neg c1]
          by_cases c2 : b[j].1 ≤ r.1
          · rw [if_pos c2, if_neg (by omega)]
          · rw [if_neg c2]
      · rw [h2]
        refine ⟨fun h => ⟨fun m hm hml => ?_, h.2⟩, fun h => ⟨fun m hm hml => h.1 m (by omega) hml, h.2⟩⟩
        rcases Nat.eq_or_lt_of_le hm with rfl | hm
        · exact c
        · exact h.1 m hm hml
    · refine ⟨false, Ev.step (f := fun _ => some false) (fun k => ?_) (Ev.now _), ?_⟩
      · simp only [spec_NoneInside.l1, up_length]
        rw [if_pos (by omega), if_pos (by omega), if_pos (by omega), rd_up b j hlt]
        unfold niAt at c
        simp only
        by_cases c1 : r.1 ≤ b[j].1
        · rw [if_pos c1]
          by_cases c3 : b[j].2 < r.2
          · rw [if_pos c3]
          · rw [if_neg c3, if_pos (by omega), if_pos (by omega)]
        · rw [if_neg c1, if_pos (by omega), if_pos (by omega)]
      · refine ⟨(fun h => by cases h), fun h => absurd (h.1 j (Nat.le_refl _) hlt) c⟩
theorem ni_l0 (a b : List (Int × Int)) (ha : a.length < 9223372036854775807) (hb : b.length < 9223372036854775807) (d : Nat) :
    ∀ i, a.length - i = d → i ≤ a.length → ∃ x, Ev (fun k => spec_NoneInside.l0 k (up b) (up a) ((up a).length : Int) (i : Int)) x ∧ (x = true ↔ ∀ m, i ≤ m → ∀ h : m < a.length, ∀ n (hn : n < b.length), niAt a[m] b[n]) := by
  induction d with
  | zero =>
    intro i hd hi
    refine ⟨true, Ev.step (f := fun _ => some true) (fun k => ?_) (Ev.now _), ?_⟩
    · simp only [spec_NoneInside.l0, up_length]; rw [if_neg (by omega)]
    · simp only [true_iff]; intro m hm hml; omega
  | succ d ih =>
    intro i hd hi
    have hlt : i < a.length := by omega
    obtain ⟨q, h1, h2⟩ := ih (i + 1) (by omega) (by omega)
    obtain ⟨x, h3, h4⟩ := ni_l1 a b hb i a[i] q (by rw [w1 (by omega)]; exact h1) _ 0 rfl (by omega)
    refine ⟨x, Ev.step (fun k => ?_) h3, ?_⟩
    · simp only [spec_NoneInside.l0, up_length]
      rw [if_pos (by omega), if_pos (by omega), if_pos (by omega), rd_up a i hlt]
      rfl
    · rw [h4, h2]
      refine ⟨fun h m hm hml n hn => ?_, fun h => ⟨fun m _ hml => h i (Nat.le_refl _) hlt m hml, fun m hm hml n hn => h m (by omega) hml n hn⟩⟩
      rcases Nat.eq_or_lt_of_le hm with rfl | hm
      · exact h.1 n (Nat.zero_le _) hn
      · exact h.2 m hm hml n hn
theorem ni_f (a b : List S24) (ha : a.length < 9223372036854775807) (hb : b.length < 9223372036854775807) : ∃ x, Ev (fun k => spec_NoneInside.f k a b) x ∧ (x = true ↔ NI (pl a) (pl b)) := by
  obtain ⟨x, h1, h2⟩ := ni_l0 (pl a) (pl b) (by rw [pl_length]; exact ha) (by rw [pl_length]; exact hb) _ 0 rfl (by omega)
  rw [up_pl, up_pl] at h1
  refine ⟨x, h1, ?_⟩
  rw [h2]
  refine ⟨fun h r hr s hs => ?_, fun h m _ hml n hn => h _ (List.getElem_mem hml) _ (List.getElem_mem hn)⟩
  obtain ⟨m, hm, rfl⟩ := List.mem_iff_getElem.1 hr
  obtain ⟨n, hn, rfl⟩ := List.mem_iff_getElem.1 hs
  exact h m (Nat.zero_le _) hm n hn

/-! ### a number in one of some ranges -/
theorem in_l0 (l : List (Int × Int)) (hl : l.length < 9223372036854775807) (v : Int) (d : Nat) : ∀ i, l.length - i = d → i ≤ l.length →
    ∃ x, Ev (fun k => spec_In.l0 k v (up l) ((up l).length : Int) (i : Int)) x ∧ (x = true ↔ Has (l.drop i) v) := by
  induction d with
  | zero =>
    intro i hd hi
    refine ⟨false, Ev.step (f := fun _ => some false) (fun k => ?_) (Ev.now _), ?_⟩
    · simp only [spec_In.l0, up_length]; rw [if_neg (by omega)]
    · rw [List.drop_eq_nil_of_le (by omega)]
      exact ⟨(fun h => by cases h), fun h => absurd h (Has.nil _)⟩
  | succ d ih =>
    intro i hd hi
    have hlt : i < l.length := by omega
    obtain ⟨x, h1, h2⟩ := ih (i + 1) (by omega) (by omega)
    rw [List.drop_eq_getElem_cons hlt]
    by_cases c : l[i].1 ≤ v ∧ v < l[i].2
    · refine ⟨true, Ev.step (f := fun _ => some true) (fun k => ?_) (Ev.now _), ?_⟩
      · simp only [spec_In.l0, up_length]; rw [if_pos (by omega), if_pos (by omega), if_pos (by omega), rd_up l i hlt, if_pos c.1, if_pos c.2]
      · simp only [true_iff]; exact Has.cons.2 (.inl c)
    · refine ⟨x, Ev.step (fun k => ?_) h1, ?_⟩
      · simp only [spec_In.l0, up_length]; rw [if_pos (by omega), if_pos (by omega), if_pos (by omega), rd_up l i hlt, w1 (by omega)]
        simp only
        by_cases c1 : l[i].1 ≤ v
        · rw [if_pos c1, if_neg (by omega)]
        · rw [if_neg c1]
      · rw [h2, Has.cons]
        exact ⟨.inr, fun h => h.resolve_left c⟩
theorem in_f (l : List S24) (hl : l.length < 9223372036854775807) (v : Int) : ∃ x, Ev (fun k => spec_In.f k l v) x ∧ (x = true ↔ Has (pl l) v) := by
  obtain ⟨x, h1, h2⟩ := in_l0 (pl l) (by rw [pl_length]; exact hl) v _ 0 rfl (by omega)
  rw [up_pl] at h1
  exact ⟨x, h1, by simpa using h2⟩

/-! ### there and back -/
theorem uk_take (l : List (Int × Int)) (i : Nat) (h : i < l.length) : uk (l.take (i + 1)) = uk (l.take i) ++ [⟨l[i].1, l[i].2⟩] := by
  rw [List.take_succ_eq_append_getElem h]; unfold uk; rw [List.map_append]; rfl
theorem up_take (l : List (Int × Int)) (i : Nat) (h : i < l.length) : up (l.take (i + 1)) = up (l.take i) ++ [⟨l[i].1, l[i].2⟩] := by
  rw [List.take_succ_eq_append_getElem h]; unfold up; rw [List.map_append]; rfl
theorem to_l0 (l : List (Int × Int)) (hl : l.length < 8796093022208) (d : Nat) : ∀ i, l.length - i = d → i ≤ l.length → Ev (fun k => impl_rangesTo.l0 k (uk (l.take i)) (up l) ((up l).length : Int) (i : Int)) (uk l) := by
  induction d with
  | zero =>
    intro i hd hi
    refine Ev.step (f := fun _ => some (uk l)) (fun k => ?_) (Ev.now _)
    simp only [impl_rangesTo.l0, up_length]; rw [if_neg (by omega), List.take_of_length_le (by omega)]
  | succ d ih =>
    intro i hd hi
    have hlt : i < l.length := by omega
    refine Ev.step (fun k => ?_) (ih (i + 1) (by omega) (by omega))
    simp only [impl_rangesTo.l0, up_length]
    rw [if_pos (by omega), if_pos (by omega), if_pos (by omega), rd_up l i hlt, if_pos (by rw [uk_length, List.length_take]; omega), w1 (by omega), uk_take l i hlt]
theorem to_f (l : List S24) (hl : l.length < 8796093022208) : Ev (fun k => impl_rangesTo.f k l) (uk (pl l)) := by
  have h := to_l0 (pl l) (by rw [pl_length]; exact hl) _ 0 rfl (by omega)
  rw [up_pl] at h
  exact h
theorem of_l0 (l : List (Int × Int)) (hl : l.length < 8796093022208) (d : Nat) : ∀ i, l.length - i = d → i ≤ l.length → Ev (fun k => impl_rangesOf.l0 k (up (l.take i)) (uk l) ((uk l).length : Int) (i : Int)) (up l) := by
  induction d with
  | zero =>
    intro i hd hi
    refine Ev.step (f := fun _ => some (up l)) (fun k => ?_) (Ev.now _)
    simp only [impl_rangesOf.l0, uk_length]; rw [if_neg (by omega), List.take_of_length_le (by omega)]
  | succ d ih =>
    intro i hd hi
    have hlt : i < l.length := by omega
    refine Ev.step (fun k => ?_) (ih (i + 1) (by omega) (by omega))
    simp only [impl_rangesOf.l0, uk_length]
    rw [if_pos (by omega), if_pos (by omega), if_pos (by omega), rd_uk l i hlt, if_pos (by rw [up_length, List.length_take]; omega), w1 (by omega), up_take l i hlt]
theorem of_f (l : List (Int × Int)) (hl : l.length < 8796093022208) : Ev (fun k => impl_rangesOf.f k (uk l)) (up l) := of_l0 l hl _ 0 rfl (by omega)

/-! ### merging -/
def push {β : Type} (F : List S56 → Option β) (x5 : List S56) (c : S56) : Option β :=
  if (x5.length : Int) > 0 then (if 0 ≤ (wrap64 ((x5.length : Int) - 1)) then (if (wrap64 ((x5.length : Int) - 1)) < (x5.length : Int) then (if c.f0 ≤ ((rd_T56 x5 (wrap64 ((x5.length : Int) - 1))).f1) then (F (x5.set ((wrap64 ((x5.length : Int) - 1)) : Int).toNat (⟨(rd_T56 x5 (wrap64 ((x5.length : Int) - 1))).f0, c.f1⟩ : S56))) else (if x5.length < 8796093022208 then (F (x5 ++ [(⟨c.f0, c.f1⟩ : S56)])) else (none))) else (none)) else (none)) else (if x5.length < 8796093022208 then (F (x5 ++ [(⟨c.f0, c.f1⟩ : S56)])) else (none))
def out (acc : List (Int × Int)) : List S56 := uk acc.reverse
theorem out_length (acc : List (Int × Int)) : (out acc).length = acc.length := by simp [out, uk]
theorem push_out {β : Type} (F : List S56 → Option β) (acc : List (Int × Int)) (c : Int × Int) (h : acc.length < 8796093022208) : push F (out acc) ⟨c.1, c.2⟩ = F (out (rstep acc c)) := by
  unfold push
  rw [out_length]
  cases acc with
  | nil => simp [rstep, out, uk]
  | cons z zs =>
    have e : wrap64 (((z :: zs).length : Int) - 1) = ((zs.length : Nat) : Int) := by simp only [List.length_cons]; unfold wrap64; simp only [List.length_cons] at h; omega
    have hr : rd_T56 (out (z :: zs)) (zs.length : Int) = ⟨z.1, z.2⟩ := by
      unfold out
      rw [rd_uk _ _ (by simp)]
      simp
    rw [e, if_pos (by simp), if_pos (by omega), if_pos (by simp; omega), hr]
    simp only [rstep, Int.toNat_natCast]
    by_cases hc : c.1 ≤ z.2
    · rw [if_pos hc, if_pos hc]
      congr 1
      simp [out, uk]
    · rw [if_neg hc, if_neg hc, if_pos (by omega)]
      congr 1
      simp [out, uk]

theorem merge_l0 (a b : List (Int × Int)) (ha : a.length < 4000000000000) (hb : b.length < 4000000000000) (d : Nat) : ∀ (i j : Nat) (acc : List (Int × Int)), (a.length - j) + (b.length - i) = d → j ≤ a.length → i ≤ b.length → acc.length + d < 8796093022208 →
    Ev (fun k => dwarfwrite_MergeRanges.l0 k (uk a) (uk b) (out acc) (i : Int) (j : Int)) (out (mer (a.drop j) (b.drop i) acc)) := by
  induction d with
  | zero =>
    intro i j acc hd hj hi hl
    rw [List.drop_eq_nil_of_le (by omega), List.drop_eq_nil_of_le (by omega), mer]
    refine Ev.step (f := fun k => dwarfwrite_MergeRanges.j1 k (uk a) (uk b) (out acc) (i : Int) (j : Int) false) (fun k => ?_) (Ev.step (f := fun _ => some (out acc)) (fun k => ?_) (Ev.now _))
    · simp only [dwarfwrite_MergeRanges.l0, uk_length]; rw [if_neg (by omega)]
    · simp only [dwarfwrite_MergeRanges.j1, uk_length]; rw [if_neg (by decide), if_neg (by omega), if_neg (by omega)]
  | succ d ih =>
    intro i j acc hd hj hi hl
    by_cases c1 : i < b.length
    · by_cases c2 : j < a.length
      · refine Ev.step (f := fun k => dwarfwrite_MergeRanges.j1 k (uk a) (uk b) (out acc) (i : Int) (j : Int) true) (fun k => ?_) ?_
        · simp only [dwarfwrite_MergeRanges.l0, uk_length]; rw [if_pos (by omega), show decide ((j : Int) < (a.length : Int)) = true by simp; omega]
        · rw [List.drop_eq_getElem_cons c1, List.drop_eq_getElem_cons c2, mer]
          by_cases c3 : b[i].1 < a[j].1
          · rw [if_pos c3, ← List.drop_eq_getElem_cons c2]
            have hs := rstep_length acc b[i]
            refine Ev.step (fun k => ?_) (ih (i + 1) j (rstep acc b[i]) (by omega) hj (by omega) (by omega))
            simp only [dwarfwrite_MergeRanges.j1, uk_length]
            rw [if_pos trivial, if_pos (by omega), if_pos (by omega), if_pos (by omega), if_pos (by omega), rd_uk b i c1, rd_uk a j c2, if_pos c3, w1 (by omega)]
            exact push_out (fun o => dwarfwrite_MergeRanges.l0 k (uk a) (uk b) o ((i + 1 : Nat) : Int) (j : Int)) acc b[i] (by omega)
          · rw [if_neg c3, ← List.drop_eq_getElem_cons c1]
            have hs := rstep_length acc a[j]
            refine Ev.step (fun k => ?_) (ih i (j + 1) (rstep acc a[j]) (by omega) (by omega) hi (by omega))
            simp only [dwarfwrite_MergeRanges.j1, uk_length]
            rw [if_pos trivial, if_pos (by omega), if_pos (by omega), if_pos (by omega), if_pos (by omega), rd_uk b i c1, rd_uk a j c2, if_neg c3, w1 (by omega)]
            exact push_out (fun o => dwarfwrite_MergeRanges.l0 k (uk a) (uk b) o (i : Int) ((j + 1 : Nat) : Int)) acc a[j] (by omega)
      · refine Ev.step (f := fun k => dwarfwrite_MergeRanges.j1 k (uk a) (uk b) (out acc) (i : Int) (j : Int) false) (fun k => ?_) ?_
        · simp only [dwarfwrite_MergeRanges.l0, uk_length]; rw [if_pos (by omega), show decide ((j : Int) < (a.length : Int)) = false by simp; omega]
        · rw [List.drop_eq_getElem_cons c1, List.drop_eq_nil_of_le (show a.length ≤ j by omega), mer]
          have hs := rstep_length acc b[i]
          have := ih (i + 1) j (rstep acc b[i]) (by omega) hj (by omega) (by omega)
          rw [List.drop_eq_nil_of_le (show a.length ≤ j by omega)] at this
          refine Ev.step (fun k => ?_) this
          simp only [dwarfwrite_MergeRanges.j1, uk_length]
          rw [if_neg (by decide), if_pos (by omega), if_pos (by omega), rd_uk b i c1, w1 (by omega)]
          exact push_out (fun o => dwarfwrite_MergeRanges.l0 k (uk a) (uk b) o ((i + 1 : Nat) : Int) (j : Int)) acc b[i] (by omega)
    · refine Ev.step (f := fun k => dwarfwrite_MergeRanges.j1 k (uk a) (uk b) (out acc) (i : Int) (j : Int) false) (fun k => ?_) ?_
      · simp only [dwarfwrite_MergeRanges.l0, uk_length]; rw [if_neg (by omega)]
      · have c2 : j < a.length := by omega
        rw [List.drop_eq_getElem_cons c2, List.drop_eq_nil_of_le (show b.length ≤ i by omega), mer]
        have hs := rstep_length acc a[j]
        have := ih i (j + 1) (rstep acc a[j]) (by omega) (by omega) hi (by omega)
        rw [List.drop_eq_nil_of_le (show b.length ≤ i by omega)] at this
        refine Ev.step (fun k => ?_) this
        simp only [dwarfwrite_MergeRanges.j1, uk_length]
        rw [if_neg (by decide), if_neg (by omega), if_pos (by omega), if_pos (by omega), rd_uk a j c2, w1 (by omega)]
        exact push_out (fun o => dwarfwrite_MergeRanges.l0 k (uk a) (uk b) o (i : Int) ((j + 1 : Nat) : Int)) acc a[j] (by omega)

theorem merge_f (a b : List (Int × Int)) (ha : a.length < 4000000000000) (hb : b.length < 4000000000000) : Ev (fun k => dwarfwrite_MergeRanges.f k (uk a) (uk b)) (uk (merged a b)) := by
  have h := merge_l0 a b ha hb _ 0 0 [] rfl (by omega) (by omega) (by simp; omega)
  refine Ev.congr (fun k => ?_) h
  have e : wrap64 ((a.length : Int) + (b.length : Int)) = ((a.length + b.length : Nat) : Int) := by unfold wrap64; omega
  unfold dwarfwrite_MergeRanges.f
  rw [uk_length, uk_length, e, if_pos (by omega), if_pos (by omega)]
  rfl
theorem mergeRanges_f (a b : List S24) (ha : a.length < 4000000000000) (hb : b.length < 4000000000000) : Ev (fun k => impl_MergeRanges.f k a b) (up (merged (pl a) (pl b))) := by
  have hm := merged_length (pl a) (pl b)
  rw [pl_length, pl_length] at hm
  unfold impl_MergeRanges.f
  refine Ev.bind (to_f a (by omega)) (Ev.bind (to_f b (by omega)) (Ev.bind (merge_f _ _ (by rw [pl_length]; omega) (by rw [pl_length]; omega)) (Ev.bind (of_f _ (by omega)) (Ev.now _))))

/-! ### equal lists -/
theorem same_l0 (l : List (Int × Int)) (hl : l.length < 9223372036854775807) (d : Nat) : ∀ i, l.length - i = d → i ≤ l.length → Ev (fun k => laws_sameRanges.l0 k (up l) (up l) ((up l).length : Int) (i : Int)) true := by
  induction d with
  | zero =>
    intro i hd hi
    refine Ev.step (f := fun _ => some true) (fun k => ?_) (Ev.now _)
    simp only [laws_sameRanges.l0, up_length]; rw [if_neg (by omega)]
  | succ d ih =>
    intro i hd hi
    refine Ev.step (fun k => ?_) (ih (i + 1) (by omega) (by omega))
    simp only [laws_sameRanges.l0, up_length]
    rw [if_pos (by omega), if_pos (by omega), if_pos (by omega), if_pos (by omega), if_neg (by simp), w1 (by omega)]
theorem same_f (l : List S24) (hl : l.length < 9223372036854775807) : Ev (fun k => laws_sameRanges.f k l l) true := by
  have h := same_l0 (pl l) (by rw [pl_length]; exact hl) _ 0 rfl (by omega)
  rw [up_pl] at h
  refine Ev.congr (fun k => ?_) h
  unfold laws_sameRanges.f
  rw [if_pos rfl]
  rfl

end Go.Proofs.Ytepealmdnaondaa.Link
