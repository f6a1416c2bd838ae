/- FnPathAbs, walked by hand. -/
import Derived.Test.YtepealmdnaondaaAbsF
namespace Go.Proofs.Ytepealmdnaondaa.Paths
set_option maxRecDepth 100000
open Go Go.RowKit Go.Proofs.Ytepealmdnaondaa.PAbs Go.Proofs.YtepealmdnaondaaW.PrintWords Go.Proofs.YtepealmdnaondaaW.PrintLast Go.Proofs.YtepealmdnaondaaW.PrintMore Go.Proofs.Ytepealmdnaondaa.Given

/-- A letter's text. -/
theorem enc_chr : ∀ n : Nat, n ≤ 25 → (Utf8.encode (97 + (n : Int))).data.toList = [UInt8.ofNat (97 + n)] := by
  intro n h
  have : ((List.range 26).all fun (n : Nat) => (Utf8.encode (97 + (n : Int))).data.toList == [UInt8.ofNat (97 + n)]) = true := by kernel_rfl
  have h1 := List.all_eq_true.1 this n (List.mem_range.2 (by omega))
  rwa [beq_iff_eq] at h1
theorem low_chr (n : Nat) (h : n ≤ 25) : isLow (UInt8.ofNat (97 + n)) := by
  have : (UInt8.ofNat (97 + n)).toNat = 97 + n := by
    rw [UInt8.toNat_ofNat']
    omega
  unfold isLow
  omega
theorem lit_by (l : List UInt8) : by_ ⟨l.toArray⟩ = l := by simp [by_]

set_option maxHeartbeats 1000000 in
theorem abs_main (n : Nat) (p : ByteArray) (w : World) (hn : n ≤ 25) (hp : p.size ≤ 65536) : Calls Try.prog 9 #[.int .i64 (n : Int), .string p] w fun e w' => e = .returned (.bool true) ∧ Below w.heap.size w w' := by
  have hby := enc_chr n hn
  have hlow := low_chr n hn
  obtain ⟨C, fe⟩ : ∃ C, Utf8.encode (97 + (n : Int)) = C := ⟨_, rfl⟩
  rw [fe] at hby
  have hby : by_ C = [UInt8.ofNat (97 + n)] := hby
  generalize UInt8.ofNat (97 + n) = c at *
  have hz : C.size = 1 := by rw [← by_length, hby]; rfl
  obtain ⟨k1, h1⟩ := impl_abs (s := (⟨#[47]⟩ : ByteArray) ++ p) (abs_slash _ (by rw [ByteArray.size_append]; show 1 + p.size < _; omega) (by rw [by_append]; rfl))
  obtain ⟨k2, h2⟩ := impl_abs (s := (C ++ (⟨#[58, 92]⟩ : ByteArray)) ++ p) (abs_drive (c := c) (d := 92) (l := by_ p) (by rw [by_append, by_append, hby]; rfl) hlow)
  obtain ⟨k3, h3⟩ := impl_abs (s := (C ++ (⟨#[58, 47]⟩ : ByteArray)) ++ p) (abs_drive (c := c) (d := 47) (l := by_ p) (by rw [by_append, by_append, hby]; rfl) hlow)
  obtain ⟨k4, h4⟩ := impl_abs abs_empty
  obtain ⟨k5, h5⟩ := impl_abs (s := C) (abs_plain hby hlow (by simp))
  have hc58 : c ≠ 58 := by
    intro e
    rw [e] at hlow
    have := hlow.1
    revert this
    decide
  obtain ⟨k6, h6⟩ := impl_abs (s := (C ++ C) ++ p) (abs_plain (c := c) (l := c :: by_ p) (by rw [by_append, by_append, hby]; rfl) hlow (by intro x hx; cases hx; exact hc58))
  obtain ⟨k7, h7⟩ := impl_abs (s := ((C ++ (⟨#[58]⟩ : ByteArray)) ++ C) ++ p) (abs_drive (c := c) (d := c) (l := by_ p) (by rw [by_append, by_append, by_append, hby]; rfl) hlow)
  have hcf : ((c == 47) || (c == 92)) = false := by
    have h47 : c ≠ 47 := by
      intro e
      rw [e] at hlow
      have := hlow.1
      revert this
      decide
    have h92 : c ≠ 92 := by
      intro e
      rw [e] at hlow
      have := hlow.1
      revert this
      decide
    simp [h47, h92]
  rw [hcf] at h7
  have H1 := Aside0.mk h1
  have H2 : Aside0 (impl_PathIsAbs.f k2 ((C ++ (⟨#[58, 92]⟩ : ByteArray)) ++ p) = some true) := ⟨h2⟩
  have H3 : Aside0 (impl_PathIsAbs.f k3 ((C ++ (⟨#[58, 47]⟩ : ByteArray)) ++ p) = some true) := ⟨h3⟩
  have H4 := Aside0.mk h4
  have H5 := Aside0.mk h5
  have H6 := Aside0.mk h6
  have H7 := Aside0.mk h7
  clear h1 h2 h3 h4 h5 h6 h7 hby hlow hc58 hcf
  have f3 : decide ((n : Int) < 0) = false := decide_eq_false (by omega)
  have f4 : decide ((n : Int) > 25) = false := decide_eq_false (by omega)
  have f5 : decide ((p.size : Int) > 2147483647) = false := decide_eq_false (by omega)
  have f6 : decide ((p.size : Int) > 65536) = false := decide_eq_false (by omega)
  have HB := Aside0.mk (Below.refl w.heap.size w)
  go_enter Try.func9, Try.ntmps9
  go_wp2_with fail
  refine (impl_PathIsAbs.calls k1 ((⟨#[47]⟩ : ByteArray) ++ p) true _ H1.out).mono ?_
  rintro e w1 ⟨rfl, hb⟩
  have n0_ := Aside0.mk (HB.out.trans (hb.mono HB.out.size))
  clear HB hb
  have HB := n0_
  clear n0_
  go_wp2_with fail
  refine (impl_PathIsAbs.calls k2 ((C ++ (⟨#[58, 92]⟩ : ByteArray)) ++ p) true _ H2.out).mono ?_
  rintro e w2 ⟨rfl, hb⟩
  have n0_ := Aside0.mk (HB.out.trans (hb.mono HB.out.size))
  clear HB hb
  have HB := n0_
  clear n0_
  go_wp2_with fail
  refine (impl_PathIsAbs.calls k3 ((C ++ (⟨#[58, 47]⟩ : ByteArray)) ++ p) true _ H3.out).mono ?_
  rintro e w3 ⟨rfl, hb⟩
  have n0_ := Aside0.mk (HB.out.trans (hb.mono HB.out.size))
  clear HB hb
  have HB := n0_
  clear n0_
  go_wp2_with fail
  refine (impl_PathIsAbs.calls k4 (⟨#[]⟩ : ByteArray) false _ H4.out).mono ?_
  rintro e w4 ⟨rfl, hb⟩
  have n0_ := Aside0.mk (HB.out.trans (hb.mono HB.out.size))
  clear HB hb
  have HB := n0_
  clear n0_
  go_wp2_with fail
  refine (impl_PathIsAbs.calls k5 C false _ H5.out).mono ?_
  rintro e w5 ⟨rfl, hb⟩
  have n0_ := Aside0.mk (HB.out.trans (hb.mono HB.out.size))
  clear HB hb
  have HB := n0_
  clear n0_
  go_wp2_with fail
  refine (impl_PathIsAbs.calls k6 ((C ++ C) ++ p) false _ H6.out).mono ?_
  rintro e w6 ⟨rfl, hb⟩
  have n0_ := Aside0.mk (HB.out.trans (hb.mono HB.out.size))
  clear HB hb
  have HB := n0_
  clear n0_
  go_wp2_with fail
  refine (impl_PathIsAbs.calls k7 (((C ++ (⟨#[58]⟩ : ByteArray)) ++ C) ++ p) false _ H7.out).mono ?_
  rintro e w7 ⟨rfl, hb⟩
  have n0_ := Aside0.mk (HB.out.trans (hb.mono HB.out.size))
  clear HB hb
  have HB := n0_
  clear n0_
  go_wp2_with fail
  go_ret
  exact ⟨rfl, HB.out⟩
theorem below_same (w : World) : Below w.heap.size w w := Below.refl _ _
theorem abs_walk (a0 : Int) (p : ByteArray) (w : World) (w0 : (Lit.int .i64 a0).wf = true) (w1 : p.size ≤ 140737488351232) : Calls Try.prog 9 #[.int .i64 a0, .string p] w fun e w' => e = .returned (.bool true) ∧ Below w.heap.size w w' := by
  by_cases c1 : (p.size : Int) > 2147483647
  · have f5 : decide ((p.size : Int) > 2147483647) = true := decide_eq_true c1
    clear w0 w1
    go_enter Try.func9, Try.ntmps9
    go_wp2_with fail
    go_ret
    exact ⟨rfl, below_same _⟩
  · have f5 : decide ((p.size : Int) > 2147483647) = false := decide_eq_false c1
    by_cases c2 : a0 < 0
    · have f3 : decide (a0 < 0) = true := decide_eq_true c2
      clear w0 w1 c1
      go_enter Try.func9, Try.ntmps9
      go_wp2_with fail
      go_ret
      exact ⟨rfl, below_same _⟩
    · have f3 : decide (a0 < 0) = false := decide_eq_false c2
      by_cases c3 : a0 > 25
      · have f4 : decide (a0 > 25) = true := decide_eq_true c3
        clear w0 w1 c1 c2
        go_enter Try.func9, Try.ntmps9
        go_wp2_with fail
        go_ret
        exact ⟨rfl, below_same _⟩
      · have f4 : decide (a0 > 25) = false := decide_eq_false c3
        by_cases c4 : (p.size : Int) > 65536
        · have f6 : decide ((p.size : Int) > 65536) = true := decide_eq_true c4
          clear w0 w1 c1 c2 c3
          go_enter Try.func9, Try.ntmps9
          go_wp2_with fail
          go_ret
          exact ⟨rfl, below_same _⟩
        · obtain ⟨n, rfl⟩ : ∃ n : Nat, a0 = (n : Int) := ⟨a0.toNat, by omega⟩
          exact abs_main n p w (by omega) (by omega)
end Go.Proofs.Ytepealmdnaondaa.Paths
