/- Plain: letters joined to a directory of a slash and letters. -/
import Derived.Test.YtepealmdnaondaaDoorPSplx2
import Derived.Test.YtepealmdnaondaaDoorPSplx3
import Derived.Lib.JoinFns
namespace Go.Proofs.YtepealmdnaondaaDoor.Join
open Go Go.RowKit Go.Proofs.YtepealmdnaondaaDoor.PSpl Go.Proofs.YtepealmdnaondaaDoorW.PrintWords Go.Proofs.YtepealmdnaondaaDoorW.PrintLast Go.Proofs.YtepealmdnaondaaDoorW.PrintMore

abbrev by_ (s : ByteArray) : List UInt8 := s.data.toList
theorem by_length (s : ByteArray) : (by_ s).length = s.size := by
  show s.data.toList.length = s.data.size
  simp
theorem by_append (s t : ByteArray) : by_ (s ++ t) = by_ s ++ by_ t := by simp [by_, ByteArray.data_append]
theorem by_ext {s t : ByteArray} (h : by_ s = by_ t) : s = t := ByteArray.ext (Array.ext' h)
theorem bt_at (s : ByteArray) (i : Nat) (c : UInt8) (h : (by_ s)[i]? = some c) : bt s (i : Int) = (c.toNat : Int) := by
  obtain ⟨h1, h2⟩ := List.getElem?_eq_some_iff.1 h
  have hb : i < s.size := by rw [← by_length]; exact h1
  unfold bt
  simp
  rw [← h2]
  simp [by_, hb]
  rfl
/-- Letters. -/
def Low (l : List UInt8) : Prop := ∀ c ∈ l, 97 ≤ c.toNat ∧ c.toNat ≤ 122
theorem low_ne {c : UInt8} (h : 97 ≤ c.toNat ∧ c.toNat ≤ 122) : c ≠ 47 ∧ c ≠ 46 ∧ c ≠ 58 ∧ c ≠ 92 := by
  refine ⟨?_, ?_, ?_, ?_⟩ <;> (intro e; rw [e] at h; revert h; decide)

/-- A path of a slash and letters has no drive. -/
theorem sd_home {s : ByteArray} {l : List UInt8} (h : by_ s = 47 :: l) (hl : Low l) : Ev (fun k => dwarf_splitDrive.f k s) ((⟨#[]⟩ : ByteArray), s) := by
  have b0 : bt s 0 = 47 := bt_at s 0 47 (by rw [h]; rfl)
  have hj2 : Ev (fun k => dwarf_splitDrive.j2 k s false) ((⟨#[]⟩ : ByteArray), s) := by
    refine Ev.step (f := fun _ => some ((⟨#[]⟩ : ByteArray), s)) (fun k => ?_) (Ev.now _)
    simp only [dwarf_splitDrive.j2]
    rw [if_neg (by decide)]
  have b1 : 2 ≤ s.size → bt s 1 ≠ 47 ∧ bt s 1 ≠ 92 ∧ bt s 1 ≠ 58 := by
    intro h2
    cases l with
    | nil => rw [← by_length, h] at h2; simp at h2
    | cons c l =>
      have e1 : bt s 1 = (c.toNat : Int) := bt_at s 1 c (by rw [h]; rfl)
      have := hl c (by simp)
      rw [e1]
      omega
  have hj1 : Ev (fun k => dwarf_splitDrive.j1 k s) ((⟨#[]⟩ : ByteArray), s) := by
    refine Ev.step (fun k => ?_) hj2
    simp only [dwarf_splitDrive.j1]
    by_cases c : (s.size : Int) > 3
    · obtain ⟨n1, n2, n3⟩ := b1 (by omega)
      have e : (bt s 1 == 47) = false := beq_eq_false_iff_ne.2 n1
      rw [if_pos c, if_pos (by omega), if_neg (by omega), if_pos b0, if_pos (by omega), if_neg n2, e]
    · rw [if_neg c]
  unfold dwarf_splitDrive.f
  have hj0 : Ev (fun k => dwarf_splitDrive.j0 k s false) ((⟨#[]⟩ : ByteArray), s) := by
    refine Ev.step (fun k => ?_) hj1
    simp only [dwarf_splitDrive.j0]
    rw [if_neg (by decide)]
  refine Ev.congr (f := fun k => dwarf_splitDrive.j0 k s false) (fun k => ?_) hj0
  by_cases c : (s.size : Int) ≥ 2
  · obtain ⟨n1, n2, n3⟩ := b1 (by omega)
    have e : (bt s 1 == 58) = false := beq_eq_false_iff_ne.2 n3
    rw [if_pos c, if_pos (by omega), e]
  · rw [if_neg c]

theorem take_word (D : List UInt8) (r : List UInt8) (hD : Low D) : (D ++ 47 :: r).takeWhile (· != 47) = D := by
  induction D with
  | nil => simp
  | cons c D ih =>
    have := (low_ne (hD c (by simp))).1
    rw [List.cons_append, List.takeWhile_cons, if_pos (by simpa using this), ih (fun x hx => hD x (by simp [hx]))]
theorem take_word_end (D : List UInt8) (hD : Low D) : D.takeWhile (· != 47) = D := by
  induction D with
  | nil => rfl
  | cons c D ih =>
    have := (low_ne (hD c (by simp))).1
    rw [List.takeWhile_cons, if_pos (by simpa using this), ih (fun x hx => hD x (by simp [hx]))]
open Go.Lib.Pa in
theorem join_two {D M : List UInt8} (hD : Low D) (hM : Low M) (d0 : D ≠ []) (m0 : M ≠ []) : joinL [47 :: D, M] = 47 :: (D ++ 47 :: M) := by
  have hb : joinBuf [47 :: D, M] = 47 :: (D ++ 47 :: M) := by simp [joinBuf, joinStep]
  obtain ⟨c, D', rfl⟩ : ∃ c D', D = c :: D' := by cases D with
    | nil => exact absurd rfl d0
    | cons c D' => exact ⟨c, D', rfl⟩
  obtain ⟨e, M', rfl⟩ : ∃ c M', M = c :: M' := by cases M with
    | nil => exact absurd rfl m0
    | cons c M' => exact ⟨c, M', rfl⟩
  have hc := low_ne (hD c (by simp))
  have he := low_ne (hM e (by simp))
  unfold joinL
  rw [hb, if_neg (by simp)]
  unfold clean
  rw [if_neg (by simp)]
  have hroot : ((some (47 : UInt8)) == some 47) = true := by decide
  simp only [List.head?_cons, hroot, if_true]
  generalize hL : 47 :: (c :: D' ++ 47 :: e :: M') = L
  have hLl : L.length = D'.length + M'.length + 4 := by rw [← hL]; simp; omega
  obtain ⟨F, hF⟩ : ∃ F, L.length = F + 4 := ⟨D'.length + M'.length, by omega⟩
  have g1 : L[1]? = some c := by rw [← hL]; rfl
  have dr1 : L.drop 1 = (c :: D') ++ 47 :: e :: M' := by rw [← hL]; rfl
  have g2 : L[1 + (c :: D').length]? = some 47 := by
    rw [← List.getElem?_drop, dr1, List.getElem?_append_right (Nat.le_refl _)]
    simp
  have dr3 : L.drop (1 + (c :: D').length + 1) = e :: M' := by
    rw [← List.drop_drop, ← List.drop_drop, dr1, List.drop_left]
    rfl
  have g3 : L[1 + (c :: D').length + 1]? = some e := by
    have := List.getElem?_drop (xs := L) (i := 1 + (c :: D').length + 1) (j := 0)
    rw [dr3] at this
    simpa using this.symm
  have st : cleanLoop L true L.length [47] 1 1 = L := by
    rw [hF]
    have n1 : ¬ (L[1]? = some 47) := by rw [g1]; intro h; exact hc.1 (Option.some.inj h)
    have n2 : ¬ (L[1]? = some 46) := by rw [g1]; intro h; exact hc.2.1 (Option.some.inj h)
    rw [cleanLoop, if_pos (by omega), if_neg n1, if_neg (fun h => n2 h.1), if_neg (fun h => n2 h.1), dr1, take_word _ _ hD]
    rw [cleanLoop, if_pos (by rw [hLl]; simp; omega), if_pos g2]
    have n3 : ¬ (L[1 + (c :: D').length + 1]? = some 47) := by rw [g3]; intro h; exact he.1 (Option.some.inj h)
    have n4 : ¬ (L[1 + (c :: D').length + 1]? = some 46) := by rw [g3]; intro h; exact he.2.1 (Option.some.inj h)
    rw [cleanLoop, if_pos (by rw [hLl]; simp; omega), if_neg n3, if_neg (fun h => n4 h.1), if_neg (fun h => n4 h.1), dr3, take_word_end _ hM]
    rw [cleanLoop, if_neg (by rw [hLl]; simp; omega), ← hL]
    simp
  rw [st, if_neg (by rw [← hL]; simp)]
/-- Letters alone, from a place on. -/
def lowB (l : List UInt8) : Bool := l.all fun c => decide (97 ≤ c.toNat) && decide (c.toNat ≤ 122)
theorem lowB_iff (l : List UInt8) : lowB l = true ↔ Low l := by
  unfold lowB Low
  simp only [List.all_eq_true, Bool.and_eq_true, decide_eq_true_eq]
theorem lowB_yes {c : UInt8} {l : List UInt8} (h : 97 ≤ c.toNat ∧ c.toNat ≤ 122) : lowB (c :: l) = lowB l := by simp [lowB, h.1, h.2]
theorem lowB_no {c : UInt8} {l : List UInt8} (h : ¬ (97 ≤ c.toNat ∧ c.toNat ≤ 122)) : lowB (c :: l) = false := by
  by_cases h1 : 97 ≤ c.toNat
  · have h2 : ¬ c.toNat ≤ 122 := fun h3 => h ⟨h1, h3⟩
    unfold lowB
    rw [List.all_cons, decide_eq_false h2]
    simp
  · unfold lowB
    rw [List.all_cons, decide_eq_false h1]
    simp
theorem name_l0 (s : ByteArray) (hs : s.size < 1000000000) (d : Nat) : ∀ i, s.size - i = d → i ≤ s.size → Ev (fun k => spec_IsName.l0 k s (i : Int)) (lowB ((by_ s).drop i) && decide ((s.size : Int) > 0)) := by
  induction d with
  | zero =>
    intro i hd hi
    obtain rfl : i = s.size := by omega
    refine Ev.step (f := fun _ => some (lowB ((by_ s).drop s.size) && decide ((s.size : Int) > 0))) (fun k => ?_) (Ev.now _)
    simp only [spec_IsName.l0]
    rw [if_neg (by omega), ← by_length, List.drop_length]
    simp [lowB]
  | succ d ih =>
    intro i hd hi
    have hlt : i < (by_ s).length := by rw [by_length]; omega
    have hw : wrap64 ((i : Int) + 1) = ((i + 1 : Nat) : Int) := by unfold wrap64; omega
    have hb := bt_at s i (by_ s)[i] (List.getElem?_eq_getElem hlt)
    rw [List.drop_eq_getElem_cons hlt]
    by_cases c1 : (97 ≤ ((by_ s)[i]).toNat ∧ ((by_ s)[i]).toNat ≤ 122)
    · have e := lowB_yes (l := (by_ s).drop (i + 1)) c1
      rw [e]
      refine Ev.step (fun k => ?_) (ih (i + 1) (by omega) (by omega))
      simp only [spec_IsName.l0]
      rw [if_pos (by omega), if_pos (by omega), hb, if_neg (by omega), if_neg (by omega), hw]
    · have e := lowB_no (l := (by_ s).drop (i + 1)) c1
      rw [e, Bool.false_and]
      refine Ev.step (f := fun _ => some false) (fun k => ?_) (Ev.now _)
      simp only [spec_IsName.l0]
      rw [if_pos (by omega), if_pos (by omega), hb]
      by_cases c2 : ((((by_ s)[i]).toNat : Int)) < 97
      · rw [if_pos c2]
      · rw [if_neg c2, if_pos (by omega)]
theorem name_f (s : ByteArray) (hs : s.size < 1000000000) : Ev (fun k => spec_IsName.f k s) (lowB (by_ s) && decide ((s.size : Int) > 0)) := by
  have h := name_l0 s hs s.size 0 (by omega) (by omega)
  rw [List.drop_zero] at h
  exact h
end Go.Proofs.YtepealmdnaondaaDoor.Join
