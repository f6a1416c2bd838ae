/- A path's drive and its rest are the path; a letter and a colon are a drive; there is none where neither they nor two slashes stand ahead. No conditions beyond the statement's own. -/
import Derived.Test.YtepealmdnaondaaPPathx3
import Derived.Test.YtepealmdnaondaaPaths
namespace Go.Proofs.Ytepealmdnaondaa.Pure
open Go.RowKit Go.Proofs.Ytepealmdnaondaa.PPath Go.Proofs.YtepealmdnaondaaW.PrintWords Go.Proofs.YtepealmdnaondaaW.PrintLast Go.Proofs.Ytepealmdnaondaa.Paths

theorem FnSplitDrive : laws_FnSplitDrive.Pure := by
  intro s _
  refine Ev.rounds ?_
  unfold laws_FnSplitDrive.f
  by_cases c1 : (s.size : Int) > 2147483647
  · simp only [if_pos c1]; exact Ev.now _
  by_cases c2 : (s.size : Int) > 65536
  · simp only [if_neg c1, if_pos c2]; exact Ev.now _
  simp only [if_neg c1, if_neg c2]
  obtain ⟨n, r, ⟨hn, h1, h2⟩, hE⟩ := sd_any s (by omega)
  have hsum : r.1.size + r.2.size = s.size := by rw [← by_length, ← by_length, h1, h2, List.length_take, List.length_drop, by_length]; omega
  have happ : (r.1 ++ r.2).toList = s.toList := by
    rw [Lib.toList_data, Lib.toList_data]
    show by_ (r.1 ++ r.2) = by_ s
    rw [by_append, h1, h2, List.take_append_drop]
  have hc : ∀ x y : UInt8, ((⟨#[x, y]⟩ : ByteArray) ++ s).size = 2 + s.size := fun x y => by rw [ByteArray.size_append]; rfl
  have hb : ∀ x y : UInt8, by_ ((⟨#[x, y]⟩ : ByteArray) ++ s) = x :: y :: by_ s := fun x y => by rw [by_append]; rfl
  have hb0 : ∀ x y : UInt8, bt ((⟨#[x, y]⟩ : ByteArray) ++ s) 0 = (x.toNat : Int) := fun x y => by
    have := bt_of ((⟨#[x, y]⟩ : ByteArray) ++ s) 0 (by rw [hc]; omega)
    simpa [hb] using this
  have hb1 : ∀ x y : UInt8, bt ((⟨#[x, y]⟩ : ByteArray) ++ s) 1 = (y.toNat : Int) := fun x y => by
    have := bt_of ((⟨#[x, y]⟩ : ByteArray) ++ s) 1 (by rw [hc]; omega)
    simpa [hb] using this
  refine Ev.bind (impl_sd hE) ?_
  have k1 : r.1.size + r.2.size ≤ 9223372036854775807 := by omega
  have k2 : 2 + s.size ≤ 9223372036854775807 := by omega
  simp only [if_pos k1, if_pos happ, if_pos k2]
  refine Ev.bind (impl_sd (sd_colon _ (by rw [hc]; omega) (by rw [hb0]; left; decide) (by rw [hb1]; rfl))) ?_
  have e1 : (((⟨#[99, 58]⟩ : ByteArray) ++ s).extract 0 2).toList = ([99, 58] : List UInt8) := by
    rw [Lib.toList_data]
    show by_ _ = _
    rw [by_extract, hb]
    rfl
  have e2 : (((⟨#[99, 58]⟩ : ByteArray) ++ s).extract 2 ((⟨#[99, 58]⟩ : ByteArray) ++ s).size).toList = s.toList := by
    rw [Lib.toList_data, Lib.toList_data]
    show by_ _ = by_ s
    rw [by_extract, ← by_length, List.take_length, hb]
    rfl
  simp only [if_pos e1, if_pos e2]
  refine Ev.bind (impl_sd (sd_no _ (by rw [hc]; omega) (by rw [hb1]; decide) (by rw [hb0]; decide))) ?_
  have e3 : (⟨#[]⟩ : ByteArray).toList = ([] : List UInt8) := by rw [Lib.toList_data]
  simp only [if_pos e3, beq_self_eq_true]
  exact Ev.now _
end Go.Proofs.Ytepealmdnaondaa.Pure
