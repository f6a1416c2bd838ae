/- Which paths are absolute, of those that the law asks. -/
import Derived.Test.YtepealmdnaondaaPathA
import Derived.Test.YtepealmdnaondaaPAbsx3
namespace Go.Proofs.Ytepealmdnaondaa.Paths
open Go Go.RowKit Go.Proofs.Ytepealmdnaondaa.PAbs Go.Proofs.YtepealmdnaondaaW.PrintWords Go.Proofs.YtepealmdnaondaaW.PrintLast Go.Proofs.YtepealmdnaondaaW.PrintMore Go.Proofs.Ytepealmdnaondaa.Given

theorem impl_abs {s : ByteArray} {b : Bool} (h : Ev (fun k => dwarf_pathIsAbs.f k s) b) : ∃ k, impl_PathIsAbs.f k s = some b := by
  obtain ⟨K, h⟩ := h
  refine ⟨K, ?_⟩
  have h1 := h K (Nat.le_refl _)
  simp only at h1
  unfold impl_PathIsAbs.f dwarf_PathIsAbs.f
  rw [h1]
  rfl
theorem bt_head {s : ByteArray} {c : UInt8} {l : List UInt8} (h : by_ s = c :: l) : bt s 0 = (c.toNat : Int) := by
  have hpos : 0 < s.size := by rw [← by_length, h]; simp
  have := bt_of s 0 hpos
  simp only [h] at this
  exact this
theorem bt_second {s : ByteArray} {c d : UInt8} {l : List UInt8} (h : by_ s = c :: d :: l) : bt s 1 = (d.toNat : Int) := by
  have hpos : 1 < s.size := by rw [← by_length, h]; simp
  have := bt_of s 1 hpos
  simp only [h] at this
  exact this
theorem rest_head {s r : ByteArray} {c : UInt8} {l : List UInt8} (hr : by_ r = c :: l) (k : Nat) (hsd : dwarf_splitDrive.f k s = some (s.extract 0 2, r)) : dwarf_pathIsAbs.f k s = some ((c == 47) || (c == 92)) := by
  have hpos : 0 < r.size := by rw [← by_length, hr]; simp
  have hb := bt_head hr
  unfold dwarf_pathIsAbs.f
  rw [hsd]
  simp only [Option.bind_some]
  rw [if_pos (by omega), if_pos (by omega), hb]
  have e47 : (c == 47) = decide ((c.toNat : Int) = 47) := by
    rw [Bool.eq_iff_iff, beq_iff_eq, decide_eq_true_eq, ← UInt8.toNat_inj]
    show c.toNat = 47 ↔ _
    omega
  have e92 : (c == 92) = ((c.toNat : Int) == 92) := by
    rw [Bool.eq_iff_iff, beq_iff_eq, beq_iff_eq, ← UInt8.toNat_inj]
    show c.toNat = 92 ↔ _
    omega
  rw [e47, e92]
  by_cases h : (c.toNat : Int) = 47
  · rw [if_pos h, decide_eq_true h]; rfl
  · rw [if_neg h, decide_eq_false h]; rfl
/-- Letters. -/
def isLow (c : UInt8) : Prop := 97 ≤ c.toNat ∧ c.toNat ≤ 122
theorem abs_drive {s : ByteArray} {c d : UInt8} {l : List UInt8} (h : by_ s = c :: 58 :: d :: l) (hc : isLow c) : Ev (fun k => dwarf_pathIsAbs.f k s) ((d == 47) || (d == 92)) := by
  have h2 : 2 ≤ s.size := by rw [← by_length, h]; simp
  have hs := sd_colon s h2 (by rw [bt_head h]; unfold Letter; have := hc.1; have := hc.2; omega) (bt_second h)
  obtain ⟨K, hs⟩ := hs
  refine ⟨K, fun k hk => ?_⟩
  have hr : by_ (s.extract 2 s.size) = d :: l := by
    rw [by_extract, ← by_length, List.take_length, h]
    rfl
  exact rest_head hr k (hs k hk)
theorem abs_plain {s : ByteArray} {c : UInt8} {l : List UInt8} (h : by_ s = c :: l) (hc : isLow c) (hl : ∀ x ∈ l.head?, x ≠ 58) : Ev (fun k => dwarf_pathIsAbs.f k s) false := by
  have hb := bt_head h
  have h47 : (c.toNat : Int) ≠ 47 ∧ (c.toNat : Int) ≠ 92 := by have := hc.1; have := hc.2; omega
  have hpos : 0 < s.size := by rw [← by_length, h]; simp
  have hs : Ev (fun k => dwarf_splitDrive.f k s) ((⟨#[]⟩ : ByteArray), s) := by
    cases l with
    | nil =>
      have h1 : s.size = 1 := by rw [← by_length, h]; rfl
      unfold dwarf_splitDrive.f
      refine Ev.congr (f := fun k => dwarf_splitDrive.j0 k s false) (fun k => ?_) (Ev.step (j0_false s) (Ev.step (f := fun k => dwarf_splitDrive.j2 k s false) (fun k => ?_) (j2_false s)))
      · rw [if_neg (by omega)]
      · simp only [dwarf_splitDrive.j1]
        rw [if_neg (by omega)]
    | cons d l =>
      have h2 : 2 ≤ s.size := by rw [← by_length, h]; simp
      refine sd_no s h2 ?_ ⟨by rw [hb]; exact h47.2, by rw [hb]; exact h47.1⟩
      rw [bt_second h]
      have := hl d rfl
      intro e
      apply this
      rw [← UInt8.toNat_inj]
      show d.toNat = 58
      omega
  unfold dwarf_pathIsAbs.f
  refine Ev.bind hs (Ev.congr (f := fun _ => some false) (fun k => ?_) (Ev.now _))
  simp only
  rw [if_pos (by omega), if_pos (by omega), hb, if_neg h47.1]
  have : ((c.toNat : Int) == 92) = false := beq_eq_false_iff_ne.2 h47.2
  rw [this]
theorem abs_empty : Ev (fun k => dwarf_pathIsAbs.f k (⟨#[]⟩ : ByteArray)) false := by
  have hs : Ev (fun k => dwarf_splitDrive.f k (⟨#[]⟩ : ByteArray)) ((⟨#[]⟩ : ByteArray), (⟨#[]⟩ : ByteArray)) := by
    unfold dwarf_splitDrive.f
    refine Ev.congr (f := fun k => dwarf_splitDrive.j0 k (⟨#[]⟩ : ByteArray) false) (fun k => ?_) (Ev.step (j0_false _) (Ev.step (f := fun k => dwarf_splitDrive.j2 k (⟨#[]⟩ : ByteArray) false) (fun k => ?_) (j2_false _)))
    · rw [if_neg (by decide)]
    · simp only [dwarf_splitDrive.j1]
      rw [if_neg (by decide)]
  unfold dwarf_pathIsAbs.f
  refine Ev.bind hs (Ev.congr (f := fun _ => some false) (fun k => ?_) (Ev.now _))
  simp only
  rw [if_neg (by decide)]
end Go.Proofs.Ytepealmdnaondaa.Paths
