/- A share of a host is a drive (names of letters). No conditions beyond the statement's own. -/
import Derived.Test.YtepealmdnaondaaPPathx3
import Derived.Test.YtepealmdnaondaaPaths
namespace Go.Proofs.Ytepealmdnaondaa.Pure
open Go.RowKit Go.Proofs.Ytepealmdnaondaa.PPath Go.Proofs.YtepealmdnaondaaW.PrintWords Go.Proofs.YtepealmdnaondaaW.PrintLast Go.Proofs.Ytepealmdnaondaa.Paths

/-- A name of letters. -/
def Name (s : ByteArray) : Prop := by_ s ≠ [] ∧ ∀ b ∈ by_ s, 97 ≤ b.toNat ∧ b.toNat ≤ 122
theorem name_l0 (s : ByteArray) (hs : s.size < 1000000000) (d : Nat) : ∀ i, s.size - i = d → i ≤ s.size → (∀ j (hj : j < s.size), j < i → 97 ≤ ((by_ s)[j]'(by rw [by_length]; exact hj)).toNat ∧ ((by_ s)[j]'(by rw [by_length]; exact hj)).toNat ≤ 122) →
    ∃ r, Ev (fun k => spec_IsName.l0 k s (i : Int)) r ∧ (r = true → Name s) := by
  induction d with
  | zero =>
    intro i hd hi hj
    refine ⟨_, Ev.step (f := fun _ => some (decide ((s.size : Int) > 0))) (fun k => ?_) (Ev.now _), fun h => ⟨fun e => ?_, fun b hb => ?_⟩⟩
    · simp only [spec_IsName.l0]; rw [if_neg (by omega)]
    · have h1 := of_decide_eq_true h
      have h2 := by_length s
      rw [e] at h2
      simp at h2
      omega
    · obtain ⟨j, hj', rfl⟩ := List.mem_iff_getElem.1 hb
      rw [by_length] at hj'
      exact hj j hj' (by omega)
  | succ d ih =>
    intro i hd hi hj
    have hlt : i < s.size := by omega
    have hw : wrap64 ((i : Int) + 1) = ((i + 1 : Nat) : Int) := by unfold wrap64; omega
    have hb := bt_of s i hlt
    by_cases c1 : bt s (i : Int) < 97
    · refine ⟨false, Ev.step (f := fun _ => some false) (fun k => ?_) (Ev.now _), fun h => by cases h⟩
      simp only [spec_IsName.l0]; rw [if_pos (by omega), if_pos (by omega), if_pos c1]
    · by_cases c2 : bt s (i : Int) > 122
      · refine ⟨false, Ev.step (f := fun _ => some false) (fun k => ?_) (Ev.now _), fun h => by cases h⟩
        simp only [spec_IsName.l0]; rw [if_pos (by omega), if_pos (by omega), if_neg c1, if_pos c2]
      · obtain ⟨r, h1, h2⟩ := ih (i + 1) (by omega) (by omega) (fun j hj' hji => by
          by_cases hc : j = i
          · subst hc; omega
          · exact hj j hj' (by omega))
        refine ⟨r, Ev.step (fun k => ?_) h1, h2⟩
        simp only [spec_IsName.l0]; rw [if_pos (by omega), if_pos (by omega), if_neg c1, if_neg c2, hw]
theorem name_f (s : ByteArray) (hs : s.size < 1000000000) : ∃ r, Ev (fun k => spec_IsName.f k s) r ∧ (r = true → Name s) := by
  obtain ⟨r, h1, h2⟩ := name_l0 s hs _ 0 rfl (by omega) (fun j _ h => by omega)
  exact ⟨r, by unfold spec_IsName.f; exact h1, h2⟩

/-- The whole path. -/
def whole (a b c : ByteArray) : ByteArray := ((((((⟨#[92, 92]⟩ : ByteArray) ++ a) ++ (⟨#[92]⟩ : ByteArray)) ++ b) ++ (⟨#[92]⟩ : ByteArray)) ++ c)
def headOf (a b : ByteArray) : ByteArray := ((((⟨#[92, 92]⟩ : ByteArray) ++ a) ++ (⟨#[92]⟩ : ByteArray)) ++ b)
theorem by_head (a b : ByteArray) : by_ (headOf a b) = 92 :: 92 :: (by_ a ++ 92 :: by_ b) := by
  unfold headOf
  rw [by_append, by_append, by_append]
  simp [by_]
theorem by_whole (a b c : ByteArray) : by_ (whole a b c) = 92 :: 92 :: (by_ a ++ 92 :: (by_ b ++ 92 :: by_ c)) := by
  unfold whole
  rw [by_append, by_append, by_append, by_append, by_append]
  simp [by_]
theorem name_ne {s : ByteArray} (h : Name s) (x : UInt8) (hx : x = 92 ∨ x = 47) : ∀ b ∈ by_ s, b ≠ x := by
  intro b hb e
  have := h.2 b hb
  rw [e] at this
  rcases hx with rfl | rfl <;> simp at this
theorem whole_size (a b c : ByteArray) : (whole a b c).size = a.size + b.size + c.size + 4 := by
  rw [← by_length, by_whole]
  have h1 := by_length a
  have h2 := by_length b
  have h3 := by_length c
  simp only [List.length_cons, List.length_append, h1, h2, h3]
  omega

theorem share_f (a b c : ByteArray) (ha : Name a) (hb : Name b) (hs : a.size + b.size + c.size < 900000000) : ∃ r, Ev (fun k => impl_SplitDrive.f k (whole a b c)) r ∧ by_ r.1 = by_ (headOf a b) ∧ by_ r.2 = 92 :: by_ c := by
  have hsz := whole_size a b c
  have hpa : 0 < a.size := by rw [← by_length]; exact List.length_pos_iff.2 ha.1
  obtain ⟨n, r, ⟨hn, h1, h2⟩, hE, hN⟩ := j2_true (whole a b c) (by omega) (by omega)
  have hT : turned (by_ (whole a b c)) = 92 :: 92 :: (by_ a ++ 92 :: (by_ b ++ 92 :: turned (by_ c))) := by
    rw [by_whole]
    have e1 := turned_self (name_ne ha 47 (.inr rfl))
    have e2 := turned_self (name_ne hb 47 (.inr rfl))
    unfold turned at e1 e2 ⊢
    simp only [List.map_cons, List.map_append, e1, e2]
    rfl
  have hn3 := hN _ _ _ hT ha.1 (name_ne ha 92 (.inl rfl)) (name_ne hb 92 (.inl rfl))
  have b0 : bt (whole a b c) 0 = 92 := by
    have := bt_of (whole a b c) 0 (by omega)
    simpa [by_whole] using this
  have b1 : bt (whole a b c) 1 = 92 := by
    have := bt_of (whole a b c) 1 (by omega)
    simpa [by_whole] using this
  have hj1 : Ev (fun k => dwarf_splitDrive.j1 k (whole a b c)) r := by
    refine Ev.step (fun k => ?_) hE
    simp only [dwarf_splitDrive.j1]
    rw [if_pos (by omega), if_pos (by omega), if_pos b0, if_pos (by omega), if_pos b1]
  have hf : Ev (fun k => dwarf_splitDrive.f k (whole a b c)) r := by
    unfold dwarf_splitDrive.f
    refine Ev.congr (f := fun k => dwarf_splitDrive.j0 k (whole a b c) false) (fun k => ?_) (Ev.step (j0_false _) hj1)
    rw [if_pos (by omega), if_pos (by omega), b1]
    rfl
  refine ⟨r, impl_sd hf, ?_, ?_⟩
  · have e : 92 :: 92 :: (by_ a ++ 92 :: (by_ b ++ 92 :: by_ c)) = (92 :: 92 :: (by_ a ++ 92 :: by_ b)) ++ 92 :: by_ c := by simp
    rw [h1, hn3, by_whole, by_head, e, List.take_left' (by simp; omega)]
  · have e : 92 :: 92 :: (by_ a ++ 92 :: (by_ b ++ 92 :: by_ c)) = (92 :: 92 :: (by_ a ++ 92 :: by_ b)) ++ 92 :: by_ c := by simp
    rw [h2, hn3, by_whole, e, List.drop_left' (by simp; omega)]

theorem share_j0 (a b c : ByteArray) (x : Bool) : Ev (fun k => laws_FnSplitShare.j0 k a b c x) true := by
  cases x with
  | true =>
    refine Ev.step (f := fun _ => some true) (fun k => ?_) (Ev.now _)
    simp only [laws_FnSplitShare.j0]; rw [if_pos trivial]
  | false =>
    by_cases c1 : (a.size : Int) > 65536
    · refine Ev.step (f := fun _ => some true) (fun k => ?_) (Ev.now _)
      simp only [laws_FnSplitShare.j0]; rw [if_neg (by decide), if_pos c1]
    by_cases c2 : (b.size : Int) > 65536
    · refine Ev.step (f := fun _ => some true) (fun k => ?_) (Ev.now _)
      simp only [laws_FnSplitShare.j0]; rw [if_neg (by decide), if_neg c1, if_pos c2]
    by_cases c3 : (c.size : Int) > 65536
    · refine Ev.step (f := fun _ => some true) (fun k => ?_) (Ev.now _)
      simp only [laws_FnSplitShare.j0]; rw [if_neg (by decide), if_neg c1, if_neg c2, if_pos c3]
    obtain ⟨r1, hr1, hn1⟩ := name_f a (by omega)
    obtain ⟨r2, hr2, hn2⟩ := name_f b (by omega)
    have z1 : 2 + a.size ≤ 9223372036854775807 := by omega
    have z2 : ((⟨#[92, 92]⟩ : ByteArray) ++ a).size + 1 ≤ 9223372036854775807 := by rw [ByteArray.size_append]; show 2 + a.size + 1 ≤ _; omega
    have z3 : (((⟨#[92, 92]⟩ : ByteArray) ++ a) ++ (⟨#[92]⟩ : ByteArray)).size + b.size ≤ 9223372036854775807 := by rw [ByteArray.size_append, ByteArray.size_append]; show 2 + a.size + 1 + b.size ≤ _; omega
    have z4 : ((((⟨#[92, 92]⟩ : ByteArray) ++ a) ++ (⟨#[92]⟩ : ByteArray)) ++ b).size + 1 ≤ 9223372036854775807 := by rw [ByteArray.size_append, ByteArray.size_append, ByteArray.size_append]; show 2 + a.size + 1 + b.size + 1 ≤ _; omega
    have z5 : (((((⟨#[92, 92]⟩ : ByteArray) ++ a) ++ (⟨#[92]⟩ : ByteArray)) ++ b) ++ (⟨#[92]⟩ : ByteArray)).size + c.size ≤ 9223372036854775807 := by rw [ByteArray.size_append, ByteArray.size_append, ByteArray.size_append, ByteArray.size_append]; show 2 + a.size + 1 + b.size + 1 + c.size ≤ _; omega
    have z6 : 1 + c.size ≤ 9223372036854775807 := by omega
    have e : ∀ k, laws_FnSplitShare.j0 (k + 1) a b c false = ((spec_IsName.f k a).bind fun t124 => (if t124 = true then ((spec_IsName.f k b).bind fun t125 => (if t125 = true then ((impl_SplitDrive.f k (whole a b c)).bind fun bt126 => (if bt126.1.toList = (headOf a b).toList then (some (bt126.2.toList == ((⟨#[92]⟩ : ByteArray) ++ c).toList)) else (some false))) else (some true))) else (some true))) := by
      intro k
      simp only [laws_FnSplitShare.j0]
      rw [if_neg (by decide), if_neg c1, if_neg c2, if_neg c3]
      simp only [if_pos z1, if_pos z2, if_pos z3, if_pos z4, if_pos z5, if_pos z6, whole, headOf]
      rfl
    refine Ev.step e (Ev.bind hr1 ?_)
    cases r1 with
    | false => exact Ev.congr (f := fun _ => some true) (fun _ => if_neg (by decide)) (Ev.now _)
    | true =>
      refine Ev.congr (fun _ => if_pos rfl) (Ev.bind hr2 ?_)
      cases r2 with
      | false => exact Ev.congr (f := fun _ => some true) (fun _ => if_neg (by decide)) (Ev.now _)
      | true =>
        obtain ⟨r, hE, h1, h2⟩ := share_f a b c (hn1 rfl) (hn2 rfl) (by omega)
        have g1 : r.1.toList = (headOf a b).toList := by rw [Lib.toList_data, Lib.toList_data]; exact h1
        have g2 : r.2.toList = ((⟨#[92]⟩ : ByteArray) ++ c).toList := by rw [Lib.toList_data, Lib.toList_data]; exact h2.trans (by rw [← by_.eq_1, by_append]; rfl)
        refine Ev.congr (fun _ => if_pos rfl) (Ev.bind hE ?_)
        refine Ev.congr (f := fun _ => some true) (fun _ => ?_) (Ev.now _)
        rw [if_pos g1, g2]
        simp
theorem FnSplitShare : laws_FnSplitShare.Pure := by
  intro a b c _ _ _
  refine Ev.rounds ?_
  unfold laws_FnSplitShare.f
  by_cases c1 : (a.size : Int) > 2147483647
  · simp only [if_pos c1]; exact share_j0 a b c true
  by_cases c2 : (b.size : Int) > 2147483647
  · simp only [if_neg c1, if_pos c2]; exact share_j0 a b c true
  · simp only [if_neg c1, if_neg c2]; exact share_j0 a b c _
end Go.Proofs.Ytepealmdnaondaa.Pure
