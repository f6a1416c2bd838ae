-- Printed by a program of this session (mkprint.py over the kit's print.py)
import Derived.Test.YtepealmdnaondaaPPathx0
import Derived.Test.YtepealmdnaondaaPPathx2
import Derived.Test.YtepealmdnaondaaExtra
namespace Go.Proofs.Ytepealmdnaondaa.PPath
open Go.RowKit Go.Proofs.YtepealmdnaondaaW.PrintWords Go.Proofs.YtepealmdnaondaaW.PrintLast Go.Proofs.YtepealmdnaondaaW.PrintMore Go.Proofs.Ytepealmdnaondaa.Given
attribute [local go_sem] max2_int min2_int max_two min_two max_three min_three max_four min_four   -- for this text's walks alone
set_option linter.unusedVariables false
set_option linter.unusedSimpArgs false

/-! ### dwarf_SplitDrive: function 28 -/
def dwarf_SplitDrive.f (k : Nat) (a0 : ByteArray) : Option (ByteArray × ByteArray) := (dwarf_splitDrive.f k a0).bind fun bt114 => (some (bt114.1, bt114.2))
theorem dwarf_SplitDrive.mono : ∀ a0 k, LeO (dwarf_SplitDrive.f k a0) (dwarf_SplitDrive.f (k + 1) a0) := by
  intro a0 k
  unfold dwarf_SplitDrive.f
  repeat' first
      | (with_reducible exact dwarf_splitDrive.mono _ _)
      | (with_reducible exact LeO.refl _)
      | (with_reducible exact LeO.none _)
      | (with_reducible refine LeO.ite ?_ ?_)
      | (with_reducible refine LeO.bind ?_ (fun _ => ?_))
      | exact dwarf_splitDrive.mono _ _
      | exact LeO.none _
      | refine LeO.ite ?_ ?_
      | refine LeO.bind ?_ (fun _ => ?_)
set_option maxHeartbeats 8000000 in
set_option maxRecDepth 100000 in
theorem dwarf_SplitDrive.calls (k : Nat) (a0 : ByteArray) (r1 : ByteArray) (r2 : ByteArray) (w : World) (h : dwarf_SplitDrive.f k a0 = some (r1, r2)) :
    Calls Try.prog 28 #[.string a0] w fun e w' => e = .returned (.tuple #[.string r1, .string r2]) ∧ Below w.heap.size w w' := by
  have HB := Aside0.mk (Below.refl w.heap.size w)
  have H : ((dwarf_splitDrive.f k a0).bind fun bt114 => (some (bt114.1, bt114.2))) = some (r1, r2) := h
  clear h
  replace H := Option.bind_eq_some_iff.mp H
  obtain ⟨⟨t114, t115⟩, A20, H⟩ := H
  replace H : (some (t114, t115)) = some (r1, r2) := H
  have A2 := Aside0.mk A20
  clear A20
  simp only [Option.some.injEq, Prod.mk.injEq] at H
  obtain ⟨rfl, rfl⟩ := H
  go_enter Try.func28, Try.ntmps28
  go_wp2_with (first | ((with_reducible refine gate_callee (f := 34) rfl ?_); refine goesL_ (some 5) rfl rfl Try.func34 (by kernel_rfl) rfl #[.string a0] rfl (by (try simp only [List.map_toArray, List.map_cons, List.map_nil]); first | done | rfl | (simp only [List.length_drop, List.length_take]; rfl)) ?_; (with_reducible refine (dwarf_splitDrive.calls k a0 t114 t115 _ A2.out).mono ?_); rintro e w3 ⟨rfl, hb⟩; refine ⟨_, rfl, ?_⟩; have n0_ := Aside0.mk (below_step (by repeat (first | (with_reducible first | exact HB.out | apply below_alloc | apply pw_below_drewN | apply below_drew1) | exact HB.out)) hb); clear HB; have HB := n0_; clear n0_; (try clear hb); (try clear hb2); (try clear hk); (try clear hi)))
  go_ret2
  exact ⟨by first | rfl | (simp [errW_none, errW_some] <;> rfl) | (simp [*, errW_none, errW_some] <;> rfl), by repeat (first | (with_reducible first | exact HB.out | apply below_alloc | apply pw_below_drewN | apply below_drew1) | exact HB.out)⟩

/-! ### impl_SplitDrive: function 18 -/
def impl_SplitDrive.f (k : Nat) (a0 : ByteArray) : Option (ByteArray × ByteArray) := (dwarf_SplitDrive.f k a0).bind fun bt116 => (some (bt116.1, bt116.2))
theorem impl_SplitDrive.mono : ∀ a0 k, LeO (impl_SplitDrive.f k a0) (impl_SplitDrive.f (k + 1) a0) := by
  intro a0 k
  unfold impl_SplitDrive.f
  repeat' first
      | (with_reducible exact dwarf_SplitDrive.mono _ _)
      | (with_reducible exact LeO.refl _)
      | (with_reducible exact LeO.none _)
      | (with_reducible refine LeO.ite ?_ ?_)
      | (with_reducible refine LeO.bind ?_ (fun _ => ?_))
      | exact dwarf_SplitDrive.mono _ _
      | exact LeO.none _
      | refine LeO.ite ?_ ?_
      | refine LeO.bind ?_ (fun _ => ?_)
set_option maxHeartbeats 8000000 in
set_option maxRecDepth 100000 in
theorem impl_SplitDrive.calls (k : Nat) (a0 : ByteArray) (r1 : ByteArray) (r2 : ByteArray) (w : World) (h : impl_SplitDrive.f k a0 = some (r1, r2)) :
    Calls Try.prog 18 #[.string a0] w fun e w' => e = .returned (.tuple #[.string r1, .string r2]) ∧ Below w.heap.size w w' := by
  have HB := Aside0.mk (Below.refl w.heap.size w)
  have H : ((dwarf_SplitDrive.f k a0).bind fun bt116 => (some (bt116.1, bt116.2))) = some (r1, r2) := h
  clear h
  replace H := Option.bind_eq_some_iff.mp H
  obtain ⟨⟨t116, t117⟩, A20, H⟩ := H
  replace H : (some (t116, t117)) = some (r1, r2) := H
  have A2 := Aside0.mk A20
  clear A20
  simp only [Option.some.injEq, Prod.mk.injEq] at H
  obtain ⟨rfl, rfl⟩ := H
  go_enter Try.func18, Try.ntmps18
  go_wp2_with (first | ((with_reducible refine gate_callee (f := 28) rfl ?_); refine goesL_ (some 5) rfl rfl Try.func28 (by kernel_rfl) rfl #[.string a0] rfl (by (try simp only [List.map_toArray, List.map_cons, List.map_nil]); first | done | rfl | (simp only [List.length_drop, List.length_take]; rfl)) ?_; (with_reducible refine (dwarf_SplitDrive.calls k a0 t116 t117 _ A2.out).mono ?_); rintro e w3 ⟨rfl, hb⟩; refine ⟨_, rfl, ?_⟩; have n0_ := Aside0.mk (below_step (by repeat (first | (with_reducible first | exact HB.out | apply below_alloc | apply pw_below_drewN | apply below_drew1) | exact HB.out)) hb); clear HB; have HB := n0_; clear n0_; (try clear hb); (try clear hb2); (try clear hk); (try clear hi)))
  go_ret2
  exact ⟨by first | rfl | (simp [errW_none, errW_some] <;> rfl) | (simp [*, errW_none, errW_some] <;> rfl), by repeat (first | (with_reducible first | exact HB.out | apply below_alloc | apply pw_below_drewN | apply below_drew1) | exact HB.out)⟩

/-! ### laws_FnSplitDrive: function 7 -/
def laws_FnSplitDrive.f (k : Nat) (a0 : ByteArray) : Option (Bool) := if (a0.size : Int) > 2147483647 then (some true) else (if (a0.size : Int) > 65536 then (some true) else ((impl_SplitDrive.f k a0).bind fun bt118 => (if bt118.1.size + bt118.2.size ≤ 9223372036854775807 then (if (bt118.1 ++ bt118.2).toList = a0.toList then (if 2 + a0.size ≤ 9223372036854775807 then ((impl_SplitDrive.f k ((⟨#[99, 58]⟩ : ByteArray) ++ a0)).bind fun bt120 => (if bt120.1.toList = ([99, 58] : List UInt8) then (if bt120.2.toList = a0.toList then ((impl_SplitDrive.f k ((⟨#[97, 98]⟩ : ByteArray) ++ a0)).bind fun bt122 => (if bt122.1.toList = ([] : List UInt8) then (some (bt122.2.toList == ((⟨#[97, 98]⟩ : ByteArray) ++ a0).toList)) else (some false))) else (some false)) else (some false))) else (none)) else (some false)) else (none))))
theorem laws_FnSplitDrive.mono : ∀ a0 k, LeO (laws_FnSplitDrive.f k a0) (laws_FnSplitDrive.f (k + 1) a0) := by
  intro a0 k
  unfold laws_FnSplitDrive.f
  repeat' first
      | (with_reducible exact impl_SplitDrive.mono _ _)
      | (with_reducible exact LeO.refl _)
      | (with_reducible exact LeO.none _)
      | (with_reducible refine LeO.ite ?_ ?_)
      | (with_reducible refine LeO.bind ?_ (fun _ => ?_))
      | exact impl_SplitDrive.mono _ _
      | exact LeO.none _
      | refine LeO.ite ?_ ?_
      | refine LeO.bind ?_ (fun _ => ?_)
set_option maxHeartbeats 8000000 in
set_option maxRecDepth 100000 in
theorem laws_FnSplitDrive.calls (k : Nat) (a0 : ByteArray) (r : Bool) (w : World) (h : laws_FnSplitDrive.f k a0 = some r) :
    Calls Try.prog 7 #[.string a0] w fun e w' => e = .returned (.bool r) ∧ Below w.heap.size w w' := by
  have HB := Aside0.mk (Below.refl w.heap.size w)
  have H : (if (a0.size : Int) > 2147483647 then (some true) else (if (a0.size : Int) > 65536 then (some true) else ((impl_SplitDrive.f k a0).bind fun bt118 => (if bt118.1.size + bt118.2.size ≤ 9223372036854775807 then (if (bt118.1 ++ bt118.2).toList = a0.toList then (if 2 + a0.size ≤ 9223372036854775807 then ((impl_SplitDrive.f k ((⟨#[99, 58]⟩ : ByteArray) ++ a0)).bind fun bt120 => (if bt120.1.toList = ([99, 58] : List UInt8) then (if bt120.2.toList = a0.toList then ((impl_SplitDrive.f k ((⟨#[97, 98]⟩ : ByteArray) ++ a0)).bind fun bt122 => (if bt122.1.toList = ([] : List UInt8) then (some (bt122.2.toList == ((⟨#[97, 98]⟩ : ByteArray) ++ a0).toList)) else (some false))) else (some false)) else (some false))) else (none)) else (some false)) else (none))))) = some r := h
  clear h
  by_cases c2 : (a0.size : Int) > 2147483647
  · rw [if_pos c2] at H
    have c2b0 : decide (2147483647 < (a0.size : Int)) = true := decide_eq_true c2
    have c2b1 : decide (2147483647 < a0.size) = true := decide_eq_true (by omega)
    clear c2
    obtain rfl := Option.some.inj H
    go_enter Try.func7, Try.ntmps7
    go_wp2
    go_ret
    exact ⟨by first | rfl | (simp [errW_none, errW_some] <;> rfl) | (simp [*, errW_none, errW_some] <;> rfl), by repeat (first | (with_reducible first | exact HB.out | apply below_alloc | apply pw_below_drewN | apply below_drew1) | exact HB.out)⟩
  · rw [if_neg c2] at H
    have c2b0 : decide (2147483647 < (a0.size : Int)) = false := decide_eq_false c2
    have c2b1 : decide (2147483647 < a0.size) = false := decide_eq_false (by omega)
    clear c2
    by_cases c3 : (a0.size : Int) > 65536
    · rw [if_pos c3] at H
      have c3b0 : decide (65536 < (a0.size : Int)) = true := decide_eq_true c3
      have c3b1 : decide (65536 < a0.size) = true := decide_eq_true (by omega)
      clear c3
      obtain rfl := Option.some.inj H
      go_enter Try.func7, Try.ntmps7
      go_wp2
      go_ret
      exact ⟨by first | rfl | (simp [errW_none, errW_some] <;> rfl) | (simp [*, errW_none, errW_some] <;> rfl), by repeat (first | (with_reducible first | exact HB.out | apply below_alloc | apply pw_below_drewN | apply below_drew1) | exact HB.out)⟩
    · rw [if_neg c3] at H
      have c3b0 : decide (65536 < (a0.size : Int)) = false := decide_eq_false c3
      have c3b1 : decide (65536 < a0.size) = false := decide_eq_false (by omega)
      clear c3
      replace H := Option.bind_eq_some_iff.mp H
      obtain ⟨⟨t118, t119⟩, A40, H⟩ := H
      replace H : (if t118.size + t119.size ≤ 9223372036854775807 then (if (t118 ++ t119).toList = a0.toList then (if 2 + a0.size ≤ 9223372036854775807 then ((impl_SplitDrive.f k ((⟨#[99, 58]⟩ : ByteArray) ++ a0)).bind fun bt120 => (if bt120.1.toList = ([99, 58] : List UInt8) then (if bt120.2.toList = a0.toList then ((impl_SplitDrive.f k ((⟨#[97, 98]⟩ : ByteArray) ++ a0)).bind fun bt122 => (if bt122.1.toList = ([] : List UInt8) then (some (bt122.2.toList == ((⟨#[97, 98]⟩ : ByteArray) ++ a0).toList)) else (some false))) else (some false)) else (some false))) else (none)) else (some false)) else (none)) = some r := H
      have A4 := Aside0.mk A40
      clear A40
      by_cases c5 : t118.size + t119.size ≤ 9223372036854775807
      · rw [if_pos c5] at H
        have c5b0 := eq_true c5
        have c5b1 : decide (t118.size + t119.size ≤ 9223372036854775807) = true := decide_eq_true c5
        try have c5b2 : (9223372036854775807 < t118.size + t119.size) = False := eq_false (Nat.not_lt.2 c5)
        by_cases c6 : (t118 ++ t119).toList = a0.toList
        · rw [if_pos c6] at H
          have c6b0 : ((t118 ++ t119).toList == a0.toList) = true := beq_iff_eq.mpr c6
          have c6b1 : ((t118 ++ t119).toList != a0.toList) = false := bne_eq_false_iff_eq.mpr c6
          clear c6
          by_cases c7 : 2 + a0.size ≤ 9223372036854775807
          · rw [if_pos c7] at H
            have c7b0 := eq_true c7
            have c7b1 : decide (2 + a0.size ≤ 9223372036854775807) = true := decide_eq_true c7
            try have c7b2 : (9223372036854775807 < 2 + a0.size) = False := eq_false (Nat.not_lt.2 c7)
            replace H := Option.bind_eq_some_iff.mp H
            obtain ⟨⟨t120, t121⟩, A80, H⟩ := H
            replace H : (if t120.toList = ([99, 58] : List UInt8) then (if t121.toList = a0.toList then ((impl_SplitDrive.f k ((⟨#[97, 98]⟩ : ByteArray) ++ a0)).bind fun bt122 => (if bt122.1.toList = ([] : List UInt8) then (some (bt122.2.toList == ((⟨#[97, 98]⟩ : ByteArray) ++ a0).toList)) else (some false))) else (some false)) else (some false)) = some r := H
            have A8 := Aside0.mk A80
            clear A80
            by_cases c9 : t120.toList = ([99, 58] : List UInt8)
            · rw [if_pos c9] at H
              have c9b0 : (t120.toList == ([99, 58] : List UInt8)) = true := beq_iff_eq.mpr c9
              have c9b1 : (t120.toList != ([99, 58] : List UInt8)) = false := bne_eq_false_iff_eq.mpr c9
              clear c9
              by_cases c10 : t121.toList = a0.toList
              · rw [if_pos c10] at H
                have c10b0 : (t121.toList == a0.toList) = true := beq_iff_eq.mpr c10
                have c10b1 : (t121.toList != a0.toList) = false := bne_eq_false_iff_eq.mpr c10
                clear c10
                replace H := Option.bind_eq_some_iff.mp H
                obtain ⟨⟨t122, t123⟩, A110, H⟩ := H
                replace H : (if t122.toList = ([] : List UInt8) then (some (t123.toList == ((⟨#[97, 98]⟩ : ByteArray) ++ a0).toList)) else (some false)) = some r := H
                have A11 := Aside0.mk A110
                clear A110
                by_cases c12 : t122.toList = ([] : List UInt8)
                · rw [if_pos c12] at H
                  have c12b0 : (t122.toList == ([] : List UInt8)) = true := beq_iff_eq.mpr c12
                  have c12b1 : (t122.toList != ([] : List UInt8)) = false := bne_eq_false_iff_eq.mpr c12
                  clear c12
                  obtain rfl := Option.some.inj H
                  go_enter Try.func7, Try.ntmps7
                  go_wp2_with (first | ((with_reducible refine gate_callee (f := 18) rfl ?_); refine goesL_ (some 17) rfl rfl Try.func18 (by kernel_rfl) rfl #[.string a0] rfl (by (try simp only [List.map_toArray, List.map_cons, List.map_nil]); first | done | rfl | (simp only [List.length_drop, List.length_take]; rfl)) ?_; (with_reducible refine (impl_SplitDrive.calls k a0 t118 t119 _ A4.out).mono ?_); rintro e w13 ⟨rfl, hb⟩; refine ⟨_, rfl, ?_⟩; have n0_ := Aside0.mk (below_step (by repeat (first | (with_reducible first | exact HB.out | apply below_alloc | apply pw_below_drewN | apply below_drew1) | exact HB.out)) hb); clear HB; have HB := n0_; clear n0_; (try clear hb); (try clear hb2); (try clear hk); (try clear hi)) | ((with_reducible refine gate_callee (f := 18) rfl ?_); refine goesL_ (some 28) rfl rfl Try.func18 (by kernel_rfl) rfl #[.string ((⟨#[99, 58]⟩ : ByteArray) ++ a0)] rfl (by (try simp only [List.map_toArray, List.map_cons, List.map_nil]); first | done | rfl | (simp only [List.length_drop, List.length_take]; rfl)) ?_; (with_reducible refine (impl_SplitDrive.calls k ((⟨#[99, 58]⟩ : ByteArray) ++ a0) t120 t121 _ A8.out).mono ?_); rintro e w14 ⟨rfl, hb⟩; refine ⟨_, rfl, ?_⟩; have n0_ := Aside0.mk (below_step (by repeat (first | (with_reducible first | exact HB.out | apply below_alloc | apply pw_below_drewN | apply below_drew1) | exact HB.out)) hb); clear HB; have HB := n0_; clear n0_; (try clear hb); (try clear hb2); (try clear hk); (try clear hi)) | ((with_reducible refine gate_callee (f := 18) rfl ?_); refine goesL_ (some 41) rfl rfl Try.func18 (by kernel_rfl) rfl #[.string ((⟨#[97, 98]⟩ : ByteArray) ++ a0)] rfl (by (try simp only [List.map_toArray, List.map_cons, List.map_nil]); first | done | rfl | (simp only [List.length_drop, List.length_take]; rfl)) ?_; (with_reducible refine (impl_SplitDrive.calls k ((⟨#[97, 98]⟩ : ByteArray) ++ a0) t122 t123 _ A11.out).mono ?_); rintro e w15 ⟨rfl, hb⟩; refine ⟨_, rfl, ?_⟩; have n0_ := Aside0.mk (below_step (by repeat (first | (with_reducible first | exact HB.out | apply below_alloc | apply pw_below_drewN | apply below_drew1) | exact HB.out)) hb); clear HB; have HB := n0_; clear n0_; (try clear hb); (try clear hb2); (try clear hk); (try clear hi)))
                  go_ret
                  exact ⟨by first | rfl | (simp [errW_none, errW_some] <;> rfl) | (simp [*, errW_none, errW_some] <;> rfl), by repeat (first | (with_reducible first | exact HB.out | apply below_alloc | apply pw_below_drewN | apply below_drew1) | exact HB.out)⟩
                · rw [if_neg c12] at H
                  have c12b0 : (t122.toList == ([] : List UInt8)) = false := beq_eq_false_iff_ne.mpr c12
                  have c12b1 : (t122.toList != ([] : List UInt8)) = true := bne_iff_ne.mpr c12
                  obtain rfl := Option.some.inj H
                  go_enter Try.func7, Try.ntmps7
                  go_wp2_with (first | ((with_reducible refine gate_callee (f := 18) rfl ?_); refine goesL_ (some 17) rfl rfl Try.func18 (by kernel_rfl) rfl #[.string a0] rfl (by (try simp only [List.map_toArray, List.map_cons, List.map_nil]); first | done | rfl | (simp only [List.length_drop, List.length_take]; rfl)) ?_; (with_reducible refine (impl_SplitDrive.calls k a0 t118 t119 _ A4.out).mono ?_); rintro e w16 ⟨rfl, hb⟩; refine ⟨_, rfl, ?_⟩; have n0_ := Aside0.mk (below_step (by repeat (first | (with_reducible first | exact HB.out | apply below_alloc | apply pw_below_drewN | apply below_drew1) | exact HB.out)) hb); clear HB; have HB := n0_; clear n0_; (try clear hb); (try clear hb2); (try clear hk); (try clear hi)) | ((with_reducible refine gate_callee (f := 18) rfl ?_); refine goesL_ (some 28) rfl rfl Try.func18 (by kernel_rfl) rfl #[.string ((⟨#[99, 58]⟩ : ByteArray) ++ a0)] rfl (by (try simp only [List.map_toArray, List.map_cons, List.map_nil]); first | done | rfl | (simp only [List.length_drop, List.length_take]; rfl)) ?_; (with_reducible refine (impl_SplitDrive.calls k ((⟨#[99, 58]⟩ : ByteArray) ++ a0) t120 t121 _ A8.out).mono ?_); rintro e w17 ⟨rfl, hb⟩; refine ⟨_, rfl, ?_⟩; have n0_ := Aside0.mk (below_step (by repeat (first | (with_reducible first | exact HB.out | apply below_alloc | apply pw_below_drewN | apply below_drew1) | exact HB.out)) hb); clear HB; have HB := n0_; clear n0_; (try clear hb); (try clear hb2); (try clear hk); (try clear hi)) | ((with_reducible refine gate_callee (f := 18) rfl ?_); refine goesL_ (some 41) rfl rfl Try.func18 (by kernel_rfl) rfl #[.string ((⟨#[97, 98]⟩ : ByteArray) ++ a0)] rfl (by (try simp only [List.map_toArray, List.map_cons, List.map_nil]); first | done | rfl | (simp only [List.length_drop, List.length_take]; rfl)) ?_; (with_reducible refine (impl_SplitDrive.calls k ((⟨#[97, 98]⟩ : ByteArray) ++ a0) t122 t123 _ A11.out).mono ?_); rintro e w18 ⟨rfl, hb⟩; refine ⟨_, rfl, ?_⟩; have n0_ := Aside0.mk (below_step (by repeat (first | (with_reducible first | exact HB.out | apply below_alloc | apply pw_below_drewN | apply below_drew1) | exact HB.out)) hb); clear HB; have HB := n0_; clear n0_; (try clear hb); (try clear hb2); (try clear hk); (try clear hi)))
                  go_ret
                  exact ⟨by first | rfl | (simp [errW_none, errW_some] <;> rfl) | (simp [*, errW_none, errW_some] <;> rfl), by repeat (first | (with_reducible first | exact HB.out | apply below_alloc | apply pw_below_drewN | apply below_drew1) | exact HB.out)⟩
              · rw [if_neg c10] at H
                have c10b0 : (t121.toList == a0.toList) = false := beq_eq_false_iff_ne.mpr c10
                have c10b1 : (t121.toList != a0.toList) = true := bne_iff_ne.mpr c10
                obtain rfl := Option.some.inj H
                go_enter Try.func7, Try.ntmps7
                go_wp2_with (first | ((with_reducible refine gate_callee (f := 18) rfl ?_); refine goesL_ (some 17) rfl rfl Try.func18 (by kernel_rfl) rfl #[.string a0] rfl (by (try simp only [List.map_toArray, List.map_cons, List.map_nil]); first | done | rfl | (simp only [List.length_drop, List.length_take]; rfl)) ?_; (with_reducible refine (impl_SplitDrive.calls k a0 t118 t119 _ A4.out).mono ?_); rintro e w19 ⟨rfl, hb⟩; refine ⟨_, rfl, ?_⟩; have n0_ := Aside0.mk (below_step (by repeat (first | (with_reducible first | exact HB.out | apply below_alloc | apply pw_below_drewN | apply below_drew1) | exact HB.out)) hb); clear HB; have HB := n0_; clear n0_; (try clear hb); (try clear hb2); (try clear hk); (try clear hi)) | ((with_reducible refine gate_callee (f := 18) rfl ?_); refine goesL_ (some 28) rfl rfl Try.func18 (by kernel_rfl) rfl #[.string ((⟨#[99, 58]⟩ : ByteArray) ++ a0)] rfl (by (try simp only [List.map_toArray, List.map_cons, List.map_nil]); first | done | rfl | (simp only [List.length_drop, List.length_take]; rfl)) ?_; (with_reducible refine (impl_SplitDrive.calls k ((⟨#[99, 58]⟩ : ByteArray) ++ a0) t120 t121 _ A8.out).mono ?_); rintro e w20 ⟨rfl, hb⟩; refine ⟨_, rfl, ?_⟩; have n0_ := Aside0.mk (below_step (by repeat (first | (with_reducible first | exact HB.out | apply below_alloc | apply pw_below_drewN | apply below_drew1) | exact HB.out)) hb); clear HB; have HB := n0_; clear n0_; (try clear hb); (try clear hb2); (try clear hk); (try clear hi)))
                go_ret
                exact ⟨by first | rfl | (simp [errW_none, errW_some] <;> rfl) | (simp [*, errW_none, errW_some] <;> rfl), by repeat (first | (with_reducible first | exact HB.out | apply below_alloc | apply pw_below_drewN | apply below_drew1) | exact HB.out)⟩
            · rw [if_neg c9] at H
              have c9b0 : (t120.toList == ([99, 58] : List UInt8)) = false := beq_eq_false_iff_ne.mpr c9
              have c9b1 : (t120.toList != ([99, 58] : List UInt8)) = true := bne_iff_ne.mpr c9
              obtain rfl := Option.some.inj H
              go_enter Try.func7, Try.ntmps7
              go_wp2_with (first | ((with_reducible refine gate_callee (f := 18) rfl ?_); refine goesL_ (some 17) rfl rfl Try.func18 (by kernel_rfl) rfl #[.string a0] rfl (by (try simp only [List.map_toArray, List.map_cons, List.map_nil]); first | done | rfl | (simp only [List.length_drop, List.length_take]; rfl)) ?_; (with_reducible refine (impl_SplitDrive.calls k a0 t118 t119 _ A4.out).mono ?_); rintro e w21 ⟨rfl, hb⟩; refine ⟨_, rfl, ?_⟩; have n0_ := Aside0.mk (below_step (by repeat (first | (with_reducible first | exact HB.out | apply below_alloc | apply pw_below_drewN | apply below_drew1) | exact HB.out)) hb); clear HB; have HB := n0_; clear n0_; (try clear hb); (try clear hb2); (try clear hk); (try clear hi)) | ((with_reducible refine gate_callee (f := 18) rfl ?_); refine goesL_ (some 28) rfl rfl Try.func18 (by kernel_rfl) rfl #[.string ((⟨#[99, 58]⟩ : ByteArray) ++ a0)] rfl (by (try simp only [List.map_toArray, List.map_cons, List.map_nil]); first | done | rfl | (simp only [List.length_drop, List.length_take]; rfl)) ?_; (with_reducible refine (impl_SplitDrive.calls k ((⟨#[99, 58]⟩ : ByteArray) ++ a0) t120 t121 _ A8.out).mono ?_); rintro e w22 ⟨rfl, hb⟩; refine ⟨_, rfl, ?_⟩; have n0_ := Aside0.mk (below_step (by repeat (first | (with_reducible first | exact HB.out | apply below_alloc | apply pw_below_drewN | apply below_drew1) | exact HB.out)) hb); clear HB; have HB := n0_; clear n0_; (try clear hb); (try clear hb2); (try clear hk); (try clear hi)))
              go_ret
              exact ⟨by first | rfl | (simp [errW_none, errW_some] <;> rfl) | (simp [*, errW_none, errW_some] <;> rfl), by repeat (first | (with_reducible first | exact HB.out | apply below_alloc | apply pw_below_drewN | apply below_drew1) | exact HB.out)⟩
          · rw [if_neg c7] at H
            exact absurd H (by simp)
        · rw [if_neg c6] at H
          have c6b0 : ((t118 ++ t119).toList == a0.toList) = false := beq_eq_false_iff_ne.mpr c6
          have c6b1 : ((t118 ++ t119).toList != a0.toList) = true := bne_iff_ne.mpr c6
          obtain rfl := Option.some.inj H
          go_enter Try.func7, Try.ntmps7
          go_wp2_with (first | ((with_reducible refine gate_callee (f := 18) rfl ?_); refine goesL_ (some 17) rfl rfl Try.func18 (by kernel_rfl) rfl #[.string a0] rfl (by (try simp only [List.map_toArray, List.map_cons, List.map_nil]); first | done | rfl | (simp only [List.length_drop, List.length_take]; rfl)) ?_; (with_reducible refine (impl_SplitDrive.calls k a0 t118 t119 _ A4.out).mono ?_); rintro e w23 ⟨rfl, hb⟩; refine ⟨_, rfl, ?_⟩; have n0_ := Aside0.mk (below_step (by repeat (first | (with_reducible first | exact HB.out | apply below_alloc | apply pw_below_drewN | apply below_drew1) | exact HB.out)) hb); clear HB; have HB := n0_; clear n0_; (try clear hb); (try clear hb2); (try clear hk); (try clear hi)))
          go_ret
          exact ⟨by first | rfl | (simp [errW_none, errW_some] <;> rfl) | (simp [*, errW_none, errW_some] <;> rfl), by repeat (first | (with_reducible first | exact HB.out | apply below_alloc | apply pw_below_drewN | apply below_drew1) | exact HB.out)⟩
      · rw [if_neg c5] at H
        exact absurd H (by simp)

/-- THE ONE PURE STATEMENT of laws_FnSplitDrive: yours. -/
def laws_FnSplitDrive.Pure : Prop := ∀ (a0 : ByteArray), a0.size ≤ 140737488351232 → ∃ k, laws_FnSplitDrive.f k a0 = some true
theorem laws_FnSplitDrive.walk (P : laws_FnSplitDrive.Pure) (a0 : ByteArray) (w : World) (w0 : a0.size ≤ 140737488351232) :
    Calls Try.prog 7 #[.string a0] w fun e w' => e = .returned (.bool true) ∧ Below w.heap.size w w' := by
  obtain ⟨k, h⟩ := P a0 w0
  refine (laws_FnSplitDrive.calls k a0 true w h).mono ?_
  rintro e w' ⟨rfl, hd⟩
  exact ⟨rfl, hd⟩

/-! ### spec_IsName: function 19 -/
def spec_IsName.l0 : Nat → ByteArray → Int → Option (Bool)
  | 0, _, _ => none
  | k + 1, x0, x3 => if x3 < (x0.size : Int) then (if 0 ≤ x3 then (if (bt x0 x3) < 97 then (some false) else (if (bt x0 x3) > 122 then (some false) else (spec_IsName.l0 k x0 (wrap64 (x3 + 1))))) else (none)) else (some (decide ((x0.size : Int) > 0)))
def spec_IsName.f (k : Nat) (a0 : ByteArray) : Option (Bool) := spec_IsName.l0 k a0 0
theorem spec_IsName.mono_l : ∀ k, (∀ y0 y1, LeO (spec_IsName.l0 k y0 y1) (spec_IsName.l0 (k + 1) y0 y1))
  | 0 => fun _ _ r h => by simp [spec_IsName.l0] at h
  | k + 1 => by
    have ih0 := spec_IsName.mono_l k
    · intro y0 y1
      unfold spec_IsName.l0
      repeat' first
      | (with_reducible exact ih0 _ _)
      | (with_reducible exact LeO.refl _)
      | (with_reducible exact LeO.none _)
      | (with_reducible refine LeO.ite ?_ ?_)
      | (with_reducible refine LeO.bind ?_ (fun _ => ?_))
      | exact ih0 _ _
      | exact LeO.none _
      | refine LeO.ite ?_ ?_
      | refine LeO.bind ?_ (fun _ => ?_)
theorem spec_IsName.mono : ∀ a0 k, LeO (spec_IsName.f k a0) (spec_IsName.f (k + 1) a0) := by
  intro a0 k
  have ih0 := spec_IsName.mono_l k
  unfold spec_IsName.f
  repeat' first
      | (with_reducible exact ih0 _ _)
      | (with_reducible exact LeO.refl _)
      | (with_reducible exact LeO.none _)
      | (with_reducible refine LeO.ite ?_ ?_)
      | (with_reducible refine LeO.bind ?_ (fun _ => ?_))
      | exact ih0 _ _
      | exact LeO.none _
      | refine LeO.ite ?_ ?_
      | refine LeO.bind ?_ (fun _ => ?_)
set_option maxHeartbeats 8000000 in
set_option maxRecDepth 100000 in
theorem spec_IsName.calls (k : Nat) (a0 : ByteArray) (r : Bool) (w : World) (h : spec_IsName.f k a0 = some r) :
    Calls Try.prog 19 #[.string a0] w fun e w' => e = .returned (.bool r) ∧ Drawn0 w w' := by
  have H : (spec_IsName.l0 k a0 0) = some r := h
  clear h
  have H' := Aside0.mk H
  clear H
  go_enter Try.func19, Try.ntmps19
  go_wp2
  go_loopg [3] k (fun kq v3 w' => ∃ (x3_1 : Int), v3 = .int .i64 x3_1 ∧ Aside0 (spec_IsName.l0 kq a0 x3_1 = some r) ∧ Aside0 (kq ≤ k) ∧ Drawn0 w w')
  case atStart => exact ⟨(0), (by first | rfl | (simp; done) | (simp [*]; done)), H', ⟨Nat.le_refl _⟩, by repeat (first | exact Drawn0.refl _ | apply Drawn0.step)⟩
  case round =>
    clear H'
    try clear c1
    obtain ⟨x3_1, rfl, HA, HK1, ⟨m1, rfl⟩⟩ := hrel
    cases gk with
    | zero => exact absurd HA.out (by simp [spec_IsName.l0])
    | succ k1 =>
      have H := HA.out
      clear HA
      simp only [spec_IsName.l0] at H
      by_cases c2 : x3_1 < (a0.size : Int)
      · rw [if_pos c2] at H
        have c2b0 : decide (x3_1 < (a0.size : Int)) = true := decide_eq_true c2
        clear c2
        by_cases c3 : 0 ≤ x3_1
        · rw [if_pos c3] at H
          have c3b0 : decide (0 ≤ x3_1) = true := decide_eq_true c3
          clear c3
          by_cases c5 : (bt a0 x3_1) < 97
          · rw [if_pos c5] at H
            have c5b0 : decide ((bt a0 x3_1) < 97) = true := decide_eq_true c5
            clear c5
            obtain rfl := Option.some.inj H
            have p4 : 0 ≤ (x3_1 : Int) := of_decide_eq_true (by first | (with_reducible assumption) | assumption)
            have q4 : x3_1 < (a0.size : Int) := of_decide_eq_true (by first | (with_reducible assumption) | assumption)
            have hx4 := bt_at a0 x3_1
            replace p4 := eq_true p4
            replace q4 := eq_true q4
            go_wp2
            go_ret
            exact ⟨by first | rfl | (simp; done) | (simp [*]; done), by repeat (first | exact Drawn0.refl _ | apply Drawn0.step)⟩
          · rw [if_neg c5] at H
            have c5b0 : decide ((bt a0 x3_1) < 97) = false := decide_eq_false c5
            clear c5
            by_cases c7 : (bt a0 x3_1) > 122
            · rw [if_pos c7] at H
              have c7b0 : decide (122 < (bt a0 x3_1)) = true := decide_eq_true c7
              clear c7
              obtain rfl := Option.some.inj H
              have p4 : 0 ≤ (x3_1 : Int) := of_decide_eq_true (by first | (with_reducible assumption) | assumption)
              have q4 : x3_1 < (a0.size : Int) := of_decide_eq_true (by first | (with_reducible assumption) | assumption)
              have hx4 := bt_at a0 x3_1
              replace p4 := eq_true p4
              replace q4 := eq_true q4
              have p6 : 0 ≤ (x3_1 : Int) := of_decide_eq_true (by first | (with_reducible assumption) | assumption)
              have q6 : x3_1 < (a0.size : Int) := of_decide_eq_true (by first | (with_reducible assumption) | assumption)
              have hx6 := bt_at a0 x3_1
              replace p6 := eq_true p6
              replace q6 := eq_true q6
              go_wp2
              go_ret
              exact ⟨by first | rfl | (simp; done) | (simp [*]; done), by repeat (first | exact Drawn0.refl _ | apply Drawn0.step)⟩
            · rw [if_neg c7] at H
              have c7b0 : decide (122 < (bt a0 x3_1)) = false := decide_eq_false c7
              clear c7
              have H' := Aside0.mk H
              clear H
              have p4 : 0 ≤ (x3_1 : Int) := of_decide_eq_true (by first | (with_reducible assumption) | assumption)
              have q4 : x3_1 < (a0.size : Int) := of_decide_eq_true (by first | (with_reducible assumption) | assumption)
              have hx4 := bt_at a0 x3_1
              replace p4 := eq_true p4
              replace q4 := eq_true q4
              have p6 : 0 ≤ (x3_1 : Int) := of_decide_eq_true (by first | (with_reducible assumption) | assumption)
              have q6 : x3_1 < (a0.size : Int) := of_decide_eq_true (by first | (with_reducible assumption) | assumption)
              have hx6 := bt_at a0 x3_1
              replace p6 := eq_true p6
              replace q6 := eq_true q6
              go_wp2
              go_roundg k1
              case measure => have := HK1.out; omega
              case rel => exact ⟨(wrap64 (x3_1 + 1)), (by first | rfl | (simp; done) | (simp [*]; done)), H', ⟨by have := HK1.out; omega⟩, by repeat (first | exact Drawn0.refl _ | apply Drawn0.step)⟩
        · rw [if_neg c3] at H
          exact absurd H (by simp)
      · rw [if_neg c2] at H
        have c2b0 : decide (x3_1 < (a0.size : Int)) = false := decide_eq_false c2
        clear c2
        obtain rfl := Option.some.inj H
        go_wp2
        go_ret
        exact ⟨by first | rfl | (simp; done) | (simp [*]; done), by repeat (first | exact Drawn0.refl _ | apply Drawn0.step)⟩

/-! ### laws_FnSplitShare: function 8 -/
def laws_FnSplitShare.j0 : Nat → ByteArray → ByteArray → ByteArray → Bool → Option (Bool)
  | 0, _, _, _, _ => none
  | k + 1, x0, x1, x2, x21 => if x21 = true then (some true) else (if (x0.size : Int) > 65536 then (some true) else (if (x1.size : Int) > 65536 then (some true) else (if (x2.size : Int) > 65536 then (some true) else ((spec_IsName.f k x0).bind fun t124 => (if t124 = true then ((spec_IsName.f k x1).bind fun t125 => (if t125 = true then (if 2 + x0.size ≤ 9223372036854775807 then (if ((⟨#[92, 92]⟩ : ByteArray) ++ x0).size + 1 ≤ 9223372036854775807 then (if (((⟨#[92, 92]⟩ : ByteArray) ++ x0) ++ (⟨#[92]⟩ : ByteArray)).size + x1.size ≤ 9223372036854775807 then (if ((((⟨#[92, 92]⟩ : ByteArray) ++ x0) ++ (⟨#[92]⟩ : ByteArray)) ++ x1).size + 1 ≤ 9223372036854775807 then (if (((((⟨#[92, 92]⟩ : ByteArray) ++ x0) ++ (⟨#[92]⟩ : ByteArray)) ++ x1) ++ (⟨#[92]⟩ : ByteArray)).size + x2.size ≤ 9223372036854775807 then ((impl_SplitDrive.f k ((((((⟨#[92, 92]⟩ : ByteArray) ++ x0) ++ (⟨#[92]⟩ : ByteArray)) ++ x1) ++ (⟨#[92]⟩ : ByteArray)) ++ x2)).bind fun bt126 => (if bt126.1.toList = ((((⟨#[92, 92]⟩ : ByteArray) ++ x0) ++ (⟨#[92]⟩ : ByteArray)) ++ x1).toList then (if 1 + x2.size ≤ 9223372036854775807 then (some (bt126.2.toList == ((⟨#[92]⟩ : ByteArray) ++ x2).toList)) else (none)) else (some false))) else (none)) else (none)) else (none)) else (none)) else (none)) else (some true))) else (some true))))))
def laws_FnSplitShare.f (k : Nat) (a0 : ByteArray) (a1 : ByteArray) (a2 : ByteArray) : Option (Bool) := if (a0.size : Int) > 2147483647 then (laws_FnSplitShare.j0 k a0 a1 a2 true) else (if (a1.size : Int) > 2147483647 then (laws_FnSplitShare.j0 k a0 a1 a2 true) else (laws_FnSplitShare.j0 k a0 a1 a2 (decide ((a2.size : Int) > 2147483647))))
theorem laws_FnSplitShare.mono_l : ∀ k, (∀ y0 y1 y2 y3, LeO (laws_FnSplitShare.j0 k y0 y1 y2 y3) (laws_FnSplitShare.j0 (k + 1) y0 y1 y2 y3))
  | 0 => fun _ _ _ _ r h => by simp [laws_FnSplitShare.j0] at h
  | k + 1 => by
    have ih0 := laws_FnSplitShare.mono_l k
    · intro y0 y1 y2 y3
      unfold laws_FnSplitShare.j0
      repeat' first
      | (with_reducible exact ih0 _ _ _ _)
      | (with_reducible exact impl_SplitDrive.mono _ _)
      | (with_reducible exact spec_IsName.mono _ _)
      | (with_reducible exact LeO.refl _)
      | (with_reducible exact LeO.none _)
      | (with_reducible refine LeO.ite ?_ ?_)
      | (with_reducible refine LeO.bind ?_ (fun _ => ?_))
      | exact ih0 _ _ _ _
      | exact impl_SplitDrive.mono _ _
      | exact spec_IsName.mono _ _
      | exact LeO.none _
      | refine LeO.ite ?_ ?_
      | refine LeO.bind ?_ (fun _ => ?_)
theorem laws_FnSplitShare.mono : ∀ a0 a1 a2 k, LeO (laws_FnSplitShare.f k a0 a1 a2) (laws_FnSplitShare.f (k + 1) a0 a1 a2) := by
  intro a0 a1 a2 k
  have ih0 := laws_FnSplitShare.mono_l k
  unfold laws_FnSplitShare.f
  repeat' first
      | (with_reducible exact ih0 _ _ _ _)
      | (with_reducible exact impl_SplitDrive.mono _ _)
      | (with_reducible exact spec_IsName.mono _ _)
      | (with_reducible exact LeO.refl _)
      | (with_reducible exact LeO.none _)
      | (with_reducible refine LeO.ite ?_ ?_)
      | (with_reducible refine LeO.bind ?_ (fun _ => ?_))
      | exact ih0 _ _ _ _
      | exact impl_SplitDrive.mono _ _
      | exact spec_IsName.mono _ _
      | exact LeO.none _
      | refine LeO.ite ?_ ?_
      | refine LeO.bind ?_ (fun _ => ?_)
set_option maxHeartbeats 8000000 in
set_option maxRecDepth 100000 in
theorem laws_FnSplitShare.calls (k : Nat) (a0 : ByteArray) (a1 : ByteArray) (a2 : ByteArray) (r : Bool) (w : World) (h : laws_FnSplitShare.f k a0 a1 a2 = some r) :
    Calls Try.prog 8 #[.string a0, .string a1, .string a2] w fun e w' => e = .returned (.bool r) ∧ Below w.heap.size w w' := by
  have HB := Aside0.mk (Below.refl w.heap.size w)
  have H : (if (a0.size : Int) > 2147483647 then (laws_FnSplitShare.j0 k a0 a1 a2 true) else (if (a1.size : Int) > 2147483647 then (laws_FnSplitShare.j0 k a0 a1 a2 true) else (laws_FnSplitShare.j0 k a0 a1 a2 (decide ((a2.size : Int) > 2147483647))))) = some r := h
  clear h
  have HC4 := Aside0.mk H
  clear H
  go_enter Try.func8, Try.ntmps8
  go_upto_region 1 with (fail)
  go_cut [21] (fun v21 wc => ∃ (kq : Nat) (x21_3 : Bool), v21 = .bool x21_3 ∧ Aside0 (laws_FnSplitShare.j0 kq a0 a1 a2 x21_3 = some r) ∧ Aside0 (kq ≤ k) ∧ Aside0 (Below w.heap.size w wc))
  case first =>
    have H := HC4.out
    clear HC4
    by_cases c5 : (a0.size : Int) > 2147483647
    · rw [if_pos c5] at H
      have c5b0 : decide (2147483647 < (a0.size : Int)) = true := decide_eq_true c5
      have c5b1 : decide (2147483647 < a0.size) = true := decide_eq_true (by omega)
      clear c5
      (first | rw [c5b0] | (simp only [i64_w, i32_w]; rw [c5b0]) | skip)
      have H' := Aside0.mk H
      clear H
      go_wp2
      go_meet
      case rel => exact ⟨_, (true), (by first | rfl | (simp; done) | (simp [*]; done)), H', ⟨by first | omega | exact Nat.le_refl _⟩, ⟨by repeat (first | (with_reducible first | exact HB.out | apply below_alloc | apply pw_below_drewN | apply below_drew1) | exact HB.out)⟩⟩
    · rw [if_neg c5] at H
      have c5b0 : decide (2147483647 < (a0.size : Int)) = false := decide_eq_false c5
      have c5b1 : decide (2147483647 < a0.size) = false := decide_eq_false (by omega)
      clear c5
      (first | rw [c5b0] | (simp only [i64_w, i32_w]; rw [c5b0]) | skip)
      by_cases c6 : (a1.size : Int) > 2147483647
      · rw [if_pos c6] at H
        have c6b0 : decide (2147483647 < (a1.size : Int)) = true := decide_eq_true c6
        have c6b1 : decide (2147483647 < a1.size) = true := decide_eq_true (by omega)
        clear c6
        have H' := Aside0.mk H
        clear H
        go_wp2
        go_meet
        case rel => exact ⟨_, (true), (by first | rfl | (simp; done) | (simp [*]; done)), H', ⟨by first | omega | exact Nat.le_refl _⟩, ⟨by repeat (first | (with_reducible first | exact HB.out | apply below_alloc | apply pw_below_drewN | apply below_drew1) | exact HB.out)⟩⟩
      · rw [if_neg c6] at H
        have c6b0 : decide (2147483647 < (a1.size : Int)) = false := decide_eq_false c6
        have c6b1 : decide (2147483647 < a1.size) = false := decide_eq_false (by omega)
        clear c6
        have H' := Aside0.mk H
        clear H
        go_wp2
        go_meet
        case rel => exact ⟨_, (decide ((a2.size : Int) > 2147483647)), (by first | rfl | (simp; done) | (simp [*]; done)), H', ⟨by first | omega | exact Nat.le_refl _⟩, ⟨by repeat (first | (with_reducible first | exact HB.out | apply below_alloc | apply pw_below_drewN | apply below_drew1) | exact HB.out)⟩⟩
  case rest =>
    clear HC4
    try clear p2
    try clear c5
    try clear c5b0
    try clear c5b1
    try clear c6
    try clear c6b0
    try clear c6b1
    obtain ⟨kq, x21_3, rfl, HA, HJ3, HB⟩ := hcut
    cases kq with
    | zero => exact absurd HA.out (by simp [laws_FnSplitShare.j0])
    | succ kj3 =>
      have H := HA.out
      clear HA
      simp only [laws_FnSplitShare.j0] at H
      by_cases c7 : x21_3 = true
      · subst c7
        have H1 : (some true) = some r := by rw [if_pos rfl] at H; exact H
        clear H
        have H := H1
        clear H1
        obtain rfl := Option.some.inj H
        go_wp2
        go_ret
        exact ⟨by first | rfl | (simp [errW_none, errW_some] <;> rfl) | (simp [*, errW_none, errW_some] <;> rfl), by repeat (first | (with_reducible first | exact HB.out | apply below_alloc | apply pw_below_drewN | apply below_drew1) | exact HB.out)⟩
      · replace c7 := Bool.eq_false_iff.mpr c7
        subst c7
        have H1 : (if (a0.size : Int) > 65536 then (some true) else (if (a1.size : Int) > 65536 then (some true) else (if (a2.size : Int) > 65536 then (some true) else ((spec_IsName.f kj3 a0).bind fun t124 => (if t124 = true then ((spec_IsName.f kj3 a1).bind fun t125 => (if t125 = true then (if 2 + a0.size ≤ 9223372036854775807 then (if ((⟨#[92, 92]⟩ : ByteArray) ++ a0).size + 1 ≤ 9223372036854775807 then (if (((⟨#[92, 92]⟩ : ByteArray) ++ a0) ++ (⟨#[92]⟩ : ByteArray)).size + a1.size ≤ 9223372036854775807 then (if ((((⟨#[92, 92]⟩ : ByteArray) ++ a0) ++ (⟨#[92]⟩ : ByteArray)) ++ a1).size + 1 ≤ 9223372036854775807 then (if (((((⟨#[92, 92]⟩ : ByteArray) ++ a0) ++ (⟨#[92]⟩ : ByteArray)) ++ a1) ++ (⟨#[92]⟩ : ByteArray)).size + a2.size ≤ 9223372036854775807 then ((impl_SplitDrive.f kj3 ((((((⟨#[92, 92]⟩ : ByteArray) ++ a0) ++ (⟨#[92]⟩ : ByteArray)) ++ a1) ++ (⟨#[92]⟩ : ByteArray)) ++ a2)).bind fun bt126 => (if bt126.1.toList = ((((⟨#[92, 92]⟩ : ByteArray) ++ a0) ++ (⟨#[92]⟩ : ByteArray)) ++ a1).toList then (if 1 + a2.size ≤ 9223372036854775807 then (some (bt126.2.toList == ((⟨#[92]⟩ : ByteArray) ++ a2).toList)) else (none)) else (some false))) else (none)) else (none)) else (none)) else (none)) else (none)) else (some true))) else (some true)))))) = some r := by rw [if_neg (show ¬ (false = true) by decide)] at H; exact H
        clear H
        have H := H1
        clear H1
        by_cases c8 : (a0.size : Int) > 65536
        · rw [if_pos c8] at H
          have c8b0 : decide (65536 < (a0.size : Int)) = true := decide_eq_true c8
          have c8b1 : decide (65536 < a0.size) = true := decide_eq_true (by omega)
          clear c8
          obtain rfl := Option.some.inj H
          go_wp2
          go_ret
          exact ⟨by first | rfl | (simp [errW_none, errW_some] <;> rfl) | (simp [*, errW_none, errW_some] <;> rfl), by repeat (first | (with_reducible first | exact HB.out | apply below_alloc | apply pw_below_drewN | apply below_drew1) | exact HB.out)⟩
        · rw [if_neg c8] at H
          have c8b0 : decide (65536 < (a0.size : Int)) = false := decide_eq_false c8
          have c8b1 : decide (65536 < a0.size) = false := decide_eq_false (by omega)
          clear c8
          by_cases c9 : (a1.size : Int) > 65536
          · rw [if_pos c9] at H
            have c9b0 : decide (65536 < (a1.size : Int)) = true := decide_eq_true c9
            have c9b1 : decide (65536 < a1.size) = true := decide_eq_true (by omega)
            clear c9
            obtain rfl := Option.some.inj H
            go_wp2
            go_ret
            exact ⟨by first | rfl | (simp [errW_none, errW_some] <;> rfl) | (simp [*, errW_none, errW_some] <;> rfl), by repeat (first | (with_reducible first | exact HB.out | apply below_alloc | apply pw_below_drewN | apply below_drew1) | exact HB.out)⟩
          · rw [if_neg c9] at H
            have c9b0 : decide (65536 < (a1.size : Int)) = false := decide_eq_false c9
            have c9b1 : decide (65536 < a1.size) = false := decide_eq_false (by omega)
            clear c9
            by_cases c10 : (a2.size : Int) > 65536
            · rw [if_pos c10] at H
              have c10b0 : decide (65536 < (a2.size : Int)) = true := decide_eq_true c10
              have c10b1 : decide (65536 < a2.size) = true := decide_eq_true (by omega)
              clear c10
              obtain rfl := Option.some.inj H
              go_wp2
              go_ret
              exact ⟨by first | rfl | (simp [errW_none, errW_some] <;> rfl) | (simp [*, errW_none, errW_some] <;> rfl), by repeat (first | (with_reducible first | exact HB.out | apply below_alloc | apply pw_below_drewN | apply below_drew1) | exact HB.out)⟩
            · rw [if_neg c10] at H
              have c10b0 : decide (65536 < (a2.size : Int)) = false := decide_eq_false c10
              have c10b1 : decide (65536 < a2.size) = false := decide_eq_false (by omega)
              clear c10
              replace H := Option.bind_eq_some_iff.mp H
              obtain ⟨t124, A110, H⟩ := H
              replace H : (if t124 = true then ((spec_IsName.f kj3 a1).bind fun t125 => (if t125 = true then (if 2 + a0.size ≤ 9223372036854775807 then (if ((⟨#[92, 92]⟩ : ByteArray) ++ a0).size + 1 ≤ 9223372036854775807 then (if (((⟨#[92, 92]⟩ : ByteArray) ++ a0) ++ (⟨#[92]⟩ : ByteArray)).size + a1.size ≤ 9223372036854775807 then (if ((((⟨#[92, 92]⟩ : ByteArray) ++ a0) ++ (⟨#[92]⟩ : ByteArray)) ++ a1).size + 1 ≤ 9223372036854775807 then (if (((((⟨#[92, 92]⟩ : ByteArray) ++ a0) ++ (⟨#[92]⟩ : ByteArray)) ++ a1) ++ (⟨#[92]⟩ : ByteArray)).size + a2.size ≤ 9223372036854775807 then ((impl_SplitDrive.f kj3 ((((((⟨#[92, 92]⟩ : ByteArray) ++ a0) ++ (⟨#[92]⟩ : ByteArray)) ++ a1) ++ (⟨#[92]⟩ : ByteArray)) ++ a2)).bind fun bt126 => (if bt126.1.toList = ((((⟨#[92, 92]⟩ : ByteArray) ++ a0) ++ (⟨#[92]⟩ : ByteArray)) ++ a1).toList then (if 1 + a2.size ≤ 9223372036854775807 then (some (bt126.2.toList == ((⟨#[92]⟩ : ByteArray) ++ a2).toList)) else (none)) else (some false))) else (none)) else (none)) else (none)) else (none)) else (none)) else (some true))) else (some true)) = some r := H
              have A11 := Aside0.mk A110
              clear A110
              by_cases c12 : t124 = true
              · subst c12
                have H1 : ((spec_IsName.f kj3 a1).bind fun t125 => (if t125 = true then (if 2 + a0.size ≤ 9223372036854775807 then (if ((⟨#[92, 92]⟩ : ByteArray) ++ a0).size + 1 ≤ 9223372036854775807 then (if (((⟨#[92, 92]⟩ : ByteArray) ++ a0) ++ (⟨#[92]⟩ : ByteArray)).size + a1.size ≤ 9223372036854775807 then (if ((((⟨#[92, 92]⟩ : ByteArray) ++ a0) ++ (⟨#[92]⟩ : ByteArray)) ++ a1).size + 1 ≤ 9223372036854775807 then (if (((((⟨#[92, 92]⟩ : ByteArray) ++ a0) ++ (⟨#[92]⟩ : ByteArray)) ++ a1) ++ (⟨#[92]⟩ : ByteArray)).size + a2.size ≤ 9223372036854775807 then ((impl_SplitDrive.f kj3 ((((((⟨#[92, 92]⟩ : ByteArray) ++ a0) ++ (⟨#[92]⟩ : ByteArray)) ++ a1) ++ (⟨#[92]⟩ : ByteArray)) ++ a2)).bind fun bt126 => (if bt126.1.toList = ((((⟨#[92, 92]⟩ : ByteArray) ++ a0) ++ (⟨#[92]⟩ : ByteArray)) ++ a1).toList then (if 1 + a2.size ≤ 9223372036854775807 then (some (bt126.2.toList == ((⟨#[92]⟩ : ByteArray) ++ a2).toList)) else (none)) else (some false))) else (none)) else (none)) else (none)) else (none)) else (none)) else (some true))) = some r := by rw [if_pos rfl] at H; exact H
                clear H
                have H := H1
                clear H1
                replace H := Option.bind_eq_some_iff.mp H
                obtain ⟨t125, A130, H⟩ := H
                replace H : (if t125 = true then (if 2 + a0.size ≤ 9223372036854775807 then (if ((⟨#[92, 92]⟩ : ByteArray) ++ a0).size + 1 ≤ 9223372036854775807 then (if (((⟨#[92, 92]⟩ : ByteArray) ++ a0) ++ (⟨#[92]⟩ : ByteArray)).size + a1.size ≤ 9223372036854775807 then (if ((((⟨#[92, 92]⟩ : ByteArray) ++ a0) ++ (⟨#[92]⟩ : ByteArray)) ++ a1).size + 1 ≤ 9223372036854775807 then (if (((((⟨#[92, 92]⟩ : ByteArray) ++ a0) ++ (⟨#[92]⟩ : ByteArray)) ++ a1) ++ (⟨#[92]⟩ : ByteArray)).size + a2.size ≤ 9223372036854775807 then ((impl_SplitDrive.f kj3 ((((((⟨#[92, 92]⟩ : ByteArray) ++ a0) ++ (⟨#[92]⟩ : ByteArray)) ++ a1) ++ (⟨#[92]⟩ : ByteArray)) ++ a2)).bind fun bt126 => (if bt126.1.toList = ((((⟨#[92, 92]⟩ : ByteArray) ++ a0) ++ (⟨#[92]⟩ : ByteArray)) ++ a1).toList then (if 1 + a2.size ≤ 9223372036854775807 then (some (bt126.2.toList == ((⟨#[92]⟩ : ByteArray) ++ a2).toList)) else (none)) else (some false))) else (none)) else (none)) else (none)) else (none)) else (none)) else (some true)) = some r := H
                have A13 := Aside0.mk A130
                clear A130
                by_cases c14 : t125 = true
                · subst c14
                  have H1 : (if 2 + a0.size ≤ 9223372036854775807 then (if ((⟨#[92, 92]⟩ : ByteArray) ++ a0).size + 1 ≤ 9223372036854775807 then (if (((⟨#[92, 92]⟩ : ByteArray) ++ a0) ++ (⟨#[92]⟩ : ByteArray)).size + a1.size ≤ 9223372036854775807 then (if ((((⟨#[92, 92]⟩ : ByteArray) ++ a0) ++ (⟨#[92]⟩ : ByteArray)) ++ a1).size + 1 ≤ 9223372036854775807 then (if (((((⟨#[92, 92]⟩ : ByteArray) ++ a0) ++ (⟨#[92]⟩ : ByteArray)) ++ a1) ++ (⟨#[92]⟩ : ByteArray)).size + a2.size ≤ 9223372036854775807 then ((impl_SplitDrive.f kj3 ((((((⟨#[92, 92]⟩ : ByteArray) ++ a0) ++ (⟨#[92]⟩ : ByteArray)) ++ a1) ++ (⟨#[92]⟩ : ByteArray)) ++ a2)).bind fun bt126 => (if bt126.1.toList = ((((⟨#[92, 92]⟩ : ByteArray) ++ a0) ++ (⟨#[92]⟩ : ByteArray)) ++ a1).toList then (if 1 + a2.size ≤ 9223372036854775807 then (some (bt126.2.toList == ((⟨#[92]⟩ : ByteArray) ++ a2).toList)) else (none)) else (some false))) else (none)) else (none)) else (none)) else (none)) else (none)) = some r := by rw [if_pos rfl] at H; exact H
                  clear H
                  have H := H1
                  clear H1
                  by_cases c15 : 2 + a0.size ≤ 9223372036854775807
                  · rw [if_pos c15] at H
                    have c15b0 := eq_true c15
                    have c15b1 : decide (2 + a0.size ≤ 9223372036854775807) = true := decide_eq_true c15
                    try have c15b2 : (9223372036854775807 < 2 + a0.size) = False := eq_false (Nat.not_lt.2 c15)
                    by_cases c16 : ((⟨#[92, 92]⟩ : ByteArray) ++ a0).size + 1 ≤ 9223372036854775807
                    · rw [if_pos c16] at H
                      have c16b0 := eq_true c16
                      have c16b1 : decide (((⟨#[92, 92]⟩ : ByteArray) ++ a0).size + 1 ≤ 9223372036854775807) = true := decide_eq_true c16
                      try have c16b2 : (9223372036854775807 < ((⟨#[92, 92]⟩ : ByteArray) ++ a0).size + 1) = False := eq_false (Nat.not_lt.2 c16)
                      try have c16b3 : (9223372036854775807 < 2 + a0.size + 1) = False := eq_false (by have hz_ := c16; simp only [ByteArray.size_append, ByteArray.size, Array.size] at hz_ ⊢; simp at hz_ ⊢; omega)
                      by_cases c17 : (((⟨#[92, 92]⟩ : ByteArray) ++ a0) ++ (⟨#[92]⟩ : ByteArray)).size + a1.size ≤ 9223372036854775807
                      · rw [if_pos c17] at H
                        have c17b0 := eq_true c17
                        have c17b1 : decide ((((⟨#[92, 92]⟩ : ByteArray) ++ a0) ++ (⟨#[92]⟩ : ByteArray)).size + a1.size ≤ 9223372036854775807) = true := decide_eq_true c17
                        try have c17b2 : (9223372036854775807 < (((⟨#[92, 92]⟩ : ByteArray) ++ a0) ++ (⟨#[92]⟩ : ByteArray)).size + a1.size) = False := eq_false (Nat.not_lt.2 c17)
                        try have c17b3 : (9223372036854775807 < 2 + a0.size + 1 + a1.size) = False := eq_false (by have hz_ := c17; simp only [ByteArray.size_append, ByteArray.size, Array.size] at hz_ ⊢; simp at hz_ ⊢; omega)
                        by_cases c18 : ((((⟨#[92, 92]⟩ : ByteArray) ++ a0) ++ (⟨#[92]⟩ : ByteArray)) ++ a1).size + 1 ≤ 9223372036854775807
                        · rw [if_pos c18] at H
                          have c18b0 := eq_true c18
                          have c18b1 : decide (((((⟨#[92, 92]⟩ : ByteArray) ++ a0) ++ (⟨#[92]⟩ : ByteArray)) ++ a1).size + 1 ≤ 9223372036854775807) = true := decide_eq_true c18
                          try have c18b2 : (9223372036854775807 < ((((⟨#[92, 92]⟩ : ByteArray) ++ a0) ++ (⟨#[92]⟩ : ByteArray)) ++ a1).size + 1) = False := eq_false (Nat.not_lt.2 c18)
                          try have c18b3 : (9223372036854775807 < 2 + a0.size + 1 + a1.size + 1) = False := eq_false (by have hz_ := c18; simp only [ByteArray.size_append, ByteArray.size, Array.size] at hz_ ⊢; simp at hz_ ⊢; omega)
                          by_cases c19 : (((((⟨#[92, 92]⟩ : ByteArray) ++ a0) ++ (⟨#[92]⟩ : ByteArray)) ++ a1) ++ (⟨#[92]⟩ : ByteArray)).size + a2.size ≤ 9223372036854775807
                          · rw [if_pos c19] at H
                            have c19b0 := eq_true c19
                            have c19b1 : decide ((((((⟨#[92, 92]⟩ : ByteArray) ++ a0) ++ (⟨#[92]⟩ : ByteArray)) ++ a1) ++ (⟨#[92]⟩ : ByteArray)).size + a2.size ≤ 9223372036854775807) = true := decide_eq_true c19
                            try have c19b2 : (9223372036854775807 < (((((⟨#[92, 92]⟩ : ByteArray) ++ a0) ++ (⟨#[92]⟩ : ByteArray)) ++ a1) ++ (⟨#[92]⟩ : ByteArray)).size + a2.size) = False := eq_false (Nat.not_lt.2 c19)
                            try have c19b3 : (9223372036854775807 < 2 + a0.size + 1 + a1.size + 1 + a2.size) = False := eq_false (by have hz_ := c19; simp only [ByteArray.size_append, ByteArray.size, Array.size] at hz_ ⊢; simp at hz_ ⊢; omega)
                            replace H := Option.bind_eq_some_iff.mp H
                            obtain ⟨⟨t126, t127⟩, A200, H⟩ := H
                            replace H : (if t126.toList = ((((⟨#[92, 92]⟩ : ByteArray) ++ a0) ++ (⟨#[92]⟩ : ByteArray)) ++ a1).toList then (if 1 + a2.size ≤ 9223372036854775807 then (some (t127.toList == ((⟨#[92]⟩ : ByteArray) ++ a2).toList)) else (none)) else (some false)) = some r := H
                            have A20 := Aside0.mk A200
                            clear A200
                            by_cases c21 : t126.toList = ((((⟨#[92, 92]⟩ : ByteArray) ++ a0) ++ (⟨#[92]⟩ : ByteArray)) ++ a1).toList
                            · rw [if_pos c21] at H
                              have c21b0 : (t126.toList == ((((⟨#[92, 92]⟩ : ByteArray) ++ a0) ++ (⟨#[92]⟩ : ByteArray)) ++ a1).toList) = true := beq_iff_eq.mpr c21
                              have c21b1 : (t126.toList != ((((⟨#[92, 92]⟩ : ByteArray) ++ a0) ++ (⟨#[92]⟩ : ByteArray)) ++ a1).toList) = false := bne_eq_false_iff_eq.mpr c21
                              clear c21
                              by_cases c22 : 1 + a2.size ≤ 9223372036854775807
                              · rw [if_pos c22] at H
                                have c22b0 := eq_true c22
                                have c22b1 : decide (1 + a2.size ≤ 9223372036854775807) = true := decide_eq_true c22
                                try have c22b2 : (9223372036854775807 < 1 + a2.size) = False := eq_false (Nat.not_lt.2 c22)
                                obtain rfl := Option.some.inj H
                                go_wp2_with (first | (go_at_call 19; (with_reducible refine (spec_IsName.calls kj3 a0 true _ A11.out).mono ?_); rintro e w' ⟨rfl, ⟨nd, rfl⟩⟩) | (go_at_call 19; (with_reducible refine (spec_IsName.calls kj3 a1 true _ A13.out).mono ?_); rintro e w' ⟨rfl, ⟨nd, rfl⟩⟩) | ((with_reducible refine gate_callee (f := 18) rfl ?_); refine goesL_ (some 54) rfl rfl Try.func18 (by kernel_rfl) rfl #[.string ((((((⟨#[92, 92]⟩ : ByteArray) ++ a0) ++ (⟨#[92]⟩ : ByteArray)) ++ a1) ++ (⟨#[92]⟩ : ByteArray)) ++ a2)] rfl (by (try simp only [List.map_toArray, List.map_cons, List.map_nil]); first | done | rfl | (simp only [List.length_drop, List.length_take]; rfl)) ?_; (with_reducible refine (impl_SplitDrive.calls kj3 ((((((⟨#[92, 92]⟩ : ByteArray) ++ a0) ++ (⟨#[92]⟩ : ByteArray)) ++ a1) ++ (⟨#[92]⟩ : ByteArray)) ++ a2) t126 t127 _ A20.out).mono ?_); rintro e w23 ⟨rfl, hb⟩; refine ⟨_, rfl, ?_⟩; have n0_ := Aside0.mk (below_step (by repeat (first | (with_reducible first | exact HB.out | apply below_alloc | apply pw_below_drewN | apply below_drew1) | exact HB.out)) hb); clear HB; have HB := n0_; clear n0_; (try clear hb); (try clear hb2); (try clear hk); (try clear hi)))
                                go_ret
                                exact ⟨by first | rfl | (simp [errW_none, errW_some] <;> rfl) | (simp [*, errW_none, errW_some] <;> rfl), by repeat (first | (with_reducible first | exact HB.out | apply below_alloc | apply pw_below_drewN | apply below_drew1) | exact HB.out)⟩
                              · rw [if_neg c22] at H
                                exact absurd H (by simp)
                            · rw [if_neg c21] at H
                              have c21b0 : (t126.toList == ((((⟨#[92, 92]⟩ : ByteArray) ++ a0) ++ (⟨#[92]⟩ : ByteArray)) ++ a1).toList) = false := beq_eq_false_iff_ne.mpr c21
                              have c21b1 : (t126.toList != ((((⟨#[92, 92]⟩ : ByteArray) ++ a0) ++ (⟨#[92]⟩ : ByteArray)) ++ a1).toList) = true := bne_iff_ne.mpr c21
                              obtain rfl := Option.some.inj H
                              go_wp2_with (first | (go_at_call 19; (with_reducible refine (spec_IsName.calls kj3 a0 true _ A11.out).mono ?_); rintro e w' ⟨rfl, ⟨nd, rfl⟩⟩) | (go_at_call 19; (with_reducible refine (spec_IsName.calls kj3 a1 true _ A13.out).mono ?_); rintro e w' ⟨rfl, ⟨nd, rfl⟩⟩) | ((with_reducible refine gate_callee (f := 18) rfl ?_); refine goesL_ (some 54) rfl rfl Try.func18 (by kernel_rfl) rfl #[.string ((((((⟨#[92, 92]⟩ : ByteArray) ++ a0) ++ (⟨#[92]⟩ : ByteArray)) ++ a1) ++ (⟨#[92]⟩ : ByteArray)) ++ a2)] rfl (by (try simp only [List.map_toArray, List.map_cons, List.map_nil]); first | done | rfl | (simp only [List.length_drop, List.length_take]; rfl)) ?_; (with_reducible refine (impl_SplitDrive.calls kj3 ((((((⟨#[92, 92]⟩ : ByteArray) ++ a0) ++ (⟨#[92]⟩ : ByteArray)) ++ a1) ++ (⟨#[92]⟩ : ByteArray)) ++ a2) t126 t127 _ A20.out).mono ?_); rintro e w24 ⟨rfl, hb⟩; refine ⟨_, rfl, ?_⟩; have n0_ := Aside0.mk (below_step (by repeat (first | (with_reducible first | exact HB.out | apply below_alloc | apply pw_below_drewN | apply below_drew1) | exact HB.out)) hb); clear HB; have HB := n0_; clear n0_; (try clear hb); (try clear hb2); (try clear hk); (try clear hi)))
                              go_ret
                              exact ⟨by first | rfl | (simp [errW_none, errW_some] <;> rfl) | (simp [*, errW_none, errW_some] <;> rfl), by repeat (first | (with_reducible first | exact HB.out | apply below_alloc | apply pw_below_drewN | apply below_drew1) | exact HB.out)⟩
                          · rw [if_neg c19] at H
                            exact absurd H (by simp)
                        · rw [if_neg c18] at H
                          exact absurd H (by simp)
                      · rw [if_neg c17] at H
                        exact absurd H (by simp)
                    · rw [if_neg c16] at H
                      exact absurd H (by simp)
                  · rw [if_neg c15] at H
                    exact absurd H (by simp)
                · replace c14 := Bool.eq_false_iff.mpr c14
                  subst c14
                  have H1 : (some true) = some r := by rw [if_neg (show ¬ (false = true) by decide)] at H; exact H
                  clear H
                  have H := H1
                  clear H1
                  obtain rfl := Option.some.inj H
                  go_wp2_with (first | (go_at_call 19; (with_reducible refine (spec_IsName.calls kj3 a0 true _ A11.out).mono ?_); rintro e w' ⟨rfl, ⟨nd, rfl⟩⟩) | (go_at_call 19; (with_reducible refine (spec_IsName.calls kj3 a1 false _ A13.out).mono ?_); rintro e w' ⟨rfl, ⟨nd, rfl⟩⟩))
                  go_ret
                  exact ⟨by first | rfl | (simp [errW_none, errW_some] <;> rfl) | (simp [*, errW_none, errW_some] <;> rfl), by repeat (first | (with_reducible first | exact HB.out | apply below_alloc | apply pw_below_drewN | apply below_drew1) | exact HB.out)⟩
              · replace c12 := Bool.eq_false_iff.mpr c12
                subst c12
                have H1 : (some true) = some r := by rw [if_neg (show ¬ (false = true) by decide)] at H; exact H
                clear H
                have H := H1
                clear H1
                obtain rfl := Option.some.inj H
                go_wp2_with (first | (go_at_call 19; (with_reducible refine (spec_IsName.calls kj3 a0 false _ A11.out).mono ?_); rintro e w' ⟨rfl, ⟨nd, rfl⟩⟩))
                go_ret
                exact ⟨by first | rfl | (simp [errW_none, errW_some] <;> rfl) | (simp [*, errW_none, errW_some] <;> rfl), by repeat (first | (with_reducible first | exact HB.out | apply below_alloc | apply pw_below_drewN | apply below_drew1) | exact HB.out)⟩

/-- THE ONE PURE STATEMENT of laws_FnSplitShare: yours. -/
def laws_FnSplitShare.Pure : Prop := ∀ (a0 : ByteArray) (a1 : ByteArray) (a2 : ByteArray), a0.size ≤ 140737488351232 → a1.size ≤ 140737488351232 → a2.size ≤ 140737488351232 → ∃ k, laws_FnSplitShare.f k a0 a1 a2 = some true
theorem laws_FnSplitShare.walk (P : laws_FnSplitShare.Pure) (a0 : ByteArray) (a1 : ByteArray) (a2 : ByteArray) (w : World) (w0 : a0.size ≤ 140737488351232) (w1 : a1.size ≤ 140737488351232) (w2 : a2.size ≤ 140737488351232) :
    Calls Try.prog 8 #[.string a0, .string a1, .string a2] w fun e w' => e = .returned (.bool true) ∧ Below w.heap.size w w' := by
  obtain ⟨k, h⟩ := P a0 a1 a2 w0 w1 w2
  refine (laws_FnSplitShare.calls k a0 a1 a2 true w h).mono ?_
  rintro e w' ⟨rfl, hd⟩
  exact ⟨rfl, hd⟩

end Go.Proofs.Ytepealmdnaondaa.PPath
