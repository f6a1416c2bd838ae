-- Printed by a program of this session (mkprint.py over the kit's print.py)
import Derived.Test.YtepealmdnaondaaPAbsx0
import Derived.Test.YtepealmdnaondaaPAbsx2
import Derived.Test.YtepealmdnaondaaExtra
namespace Go.Proofs.Ytepealmdnaondaa.PAbs
open Go.RowKit Go.Proofs.YtepealmdnaondaaW.PrintWords Go.Proofs.YtepealmdnaondaaW.PrintLast Go.Proofs.YtepealmdnaondaaW.PrintMore Go.Proofs.Ytepealmdnaondaa.Given
attribute [local go_sem] max2_int min2_int max_two min_two max_three min_three max_four min_four   -- for this text's walks alone
set_option linter.unusedVariables false
set_option linter.unusedSimpArgs false

/-! ### dwarf_pathIsAbs: function 35 -/
def dwarf_pathIsAbs.f (k : Nat) (a0 : ByteArray) : Option (Bool) := (dwarf_splitDrive.f k a0).bind fun bt114 => (if (bt114.2.size : Int) > 0 then (if 0 < (bt114.2.size : Int) then (if (bt bt114.2 0) = 47 then (some true) else (some ((bt bt114.2 0) == 92))) else (none)) else (some false))
theorem dwarf_pathIsAbs.mono : ∀ a0 k, LeO (dwarf_pathIsAbs.f k a0) (dwarf_pathIsAbs.f (k + 1) a0) := by
  intro a0 k
  unfold dwarf_pathIsAbs.f
  repeat' first
      | (with_reducible exact dwarf_splitDrive.mono _ _)
      | (with_reducible exact LeO.refl _)
      | (with_reducible exact LeO.none _)
      | (with_reducible refine LeO.ite ?_ ?_)
      | (with_reducible refine LeO.bind ?_ (fun _ => ?_))
      | exact dwarf_splitDrive.mono _ _
      | exact LeO.none _
      | refine LeO.ite ?_ ?_
      | refine LeO.bind ?_ (fun _ => ?_)
set_option maxHeartbeats 8000000 in
set_option maxRecDepth 100000 in
theorem dwarf_pathIsAbs.calls (k : Nat) (a0 : ByteArray) (r : Bool) (w : World) (h : dwarf_pathIsAbs.f k a0 = some r) :
    Calls Try.prog 35 #[.string a0] w fun e w' => e = .returned (.bool r) ∧ Below w.heap.size w w' := by
  have HB := Aside0.mk (Below.refl w.heap.size w)
  have H : ((dwarf_splitDrive.f k a0).bind fun bt114 => (if (bt114.2.size : Int) > 0 then (if 0 < (bt114.2.size : Int) then (if (bt bt114.2 0) = 47 then (some true) else (some ((bt bt114.2 0) == 92))) else (none)) else (some false))) = some r := h
  clear h
  replace H := Option.bind_eq_some_iff.mp H
  obtain ⟨⟨t114, t115⟩, A20, H⟩ := H
  replace H : (if (t115.size : Int) > 0 then (if 0 < (t115.size : Int) then (if (bt t115 0) = 47 then (some true) else (some ((bt t115 0) == 92))) else (none)) else (some false)) = some r := H
  have A2 := Aside0.mk A20
  clear A20
  by_cases c3 : (t115.size : Int) > 0
  · rw [if_pos c3] at H
    have c3b0 : decide (0 < (t115.size : Int)) = true := decide_eq_true c3
    have c3b1 : decide (0 < t115.size) = true := decide_eq_true (by omega)
    clear c3
    by_cases c4 : 0 < (t115.size : Int)
    · rw [if_pos c4] at H
      have c4b0 : decide (0 < (t115.size : Int)) = true := decide_eq_true c4
      have c4b1 : decide (0 < t115.size) = true := decide_eq_true (by omega)
      clear c4
      by_cases c6 : (bt t115 0) = 47
      · rw [if_pos c6] at H
        have c6b0 : ((bt t115 0) == 47) = true := beq_iff_eq.mpr c6
        have c6b1 : ((bt t115 0) != 47) = false := bne_eq_false_iff_eq.mpr c6
        clear c6
        obtain rfl := Option.some.inj H
        go_enter Try.func35, Try.ntmps35
        go_wp2_with (first | ((with_reducible refine gate_callee (f := 34) rfl ?_); refine goesL_ (some 5) rfl rfl Try.func34 (by kernel_rfl) rfl #[.string a0] rfl (by (try simp only [List.map_toArray, List.map_cons, List.map_nil]); first | done | rfl | (simp only [List.length_drop, List.length_take]; rfl)) ?_; (with_reducible refine (dwarf_splitDrive.calls k a0 t114 t115 _ A2.out).mono ?_); rintro e w7 ⟨rfl, hb⟩; refine ⟨_, rfl, ?_⟩; have n0_ := Aside0.mk (below_step (by repeat (first | (with_reducible first | exact HB.out | apply below_alloc | apply pw_below_drewN | apply below_drew1) | exact HB.out)) hb); clear HB; have HB := n0_; clear n0_; (try clear hb); (try clear hb2); (try clear hk); (try clear hi); have p5 : 0 ≤ (0 : Int) := (by omega); have q5 : 0 < t115.size := (by have : (0 : Int) < (t115.size : Int) := of_decide_eq_true (by first | (with_reducible assumption) | assumption); omega); have hx5 : ∀ h : 0 < t115.size, ((t115[0]'h).toNat : Int) = bt t115 0 := bt_at t115 0; clear p5; have qi5 : (0 < (t115.size : Int)) = True := eq_true (of_decide_eq_true (by first | (with_reducible assumption) | assumption)); replace q5 := eq_true q5))
        go_ret
        exact ⟨by first | rfl | (simp [errW_none, errW_some] <;> rfl) | (simp [*, errW_none, errW_some] <;> rfl), by repeat (first | (with_reducible first | exact HB.out | apply below_alloc | apply pw_below_drewN | apply below_drew1) | exact HB.out)⟩
      · rw [if_neg c6] at H
        have c6b0 : ((bt t115 0) == 47) = false := beq_eq_false_iff_ne.mpr c6
        have c6b1 : ((bt t115 0) != 47) = true := bne_iff_ne.mpr c6
        obtain rfl := Option.some.inj H
        go_enter Try.func35, Try.ntmps35
        go_wp2_with (first | ((with_reducible refine gate_callee (f := 34) rfl ?_); refine goesL_ (some 5) rfl rfl Try.func34 (by kernel_rfl) rfl #[.string a0] rfl (by (try simp only [List.map_toArray, List.map_cons, List.map_nil]); first | done | rfl | (simp only [List.length_drop, List.length_take]; rfl)) ?_; (with_reducible refine (dwarf_splitDrive.calls k a0 t114 t115 _ A2.out).mono ?_); rintro e w9 ⟨rfl, hb⟩; refine ⟨_, rfl, ?_⟩; have n0_ := Aside0.mk (below_step (by repeat (first | (with_reducible first | exact HB.out | apply below_alloc | apply pw_below_drewN | apply below_drew1) | exact HB.out)) hb); clear HB; have HB := n0_; clear n0_; (try clear hb); (try clear hb2); (try clear hk); (try clear hi); have p5 : 0 ≤ (0 : Int) := (by omega); have q5 : 0 < t115.size := (by have : (0 : Int) < (t115.size : Int) := of_decide_eq_true (by first | (with_reducible assumption) | assumption); omega); have hx5 : ∀ h : 0 < t115.size, ((t115[0]'h).toNat : Int) = bt t115 0 := bt_at t115 0; clear p5; have qi5 : (0 < (t115.size : Int)) = True := eq_true (of_decide_eq_true (by first | (with_reducible assumption) | assumption)); replace q5 := eq_true q5; have p8 : 0 ≤ (0 : Int) := (by omega); have q8 : 0 < t115.size := (by have : (0 : Int) < (t115.size : Int) := of_decide_eq_true (by first | (with_reducible assumption) | assumption); omega); have hx8 : ∀ h : 0 < t115.size, ((t115[0]'h).toNat : Int) = bt t115 0 := bt_at t115 0; clear p8; have qi8 : (0 < (t115.size : Int)) = True := eq_true (of_decide_eq_true (by first | (with_reducible assumption) | assumption)); replace q8 := eq_true q8))
        go_ret
        exact ⟨by first | rfl | (simp [errW_none, errW_some] <;> rfl) | (simp [*, errW_none, errW_some] <;> rfl), by repeat (first | (with_reducible first | exact HB.out | apply below_alloc | apply pw_below_drewN | apply below_drew1) | exact HB.out)⟩
    · rw [if_neg c4] at H
      exact absurd H (by simp)
  · rw [if_neg c3] at H
    have c3b0 : decide (0 < (t115.size : Int)) = false := decide_eq_false c3
    have c3b1 : decide (0 < t115.size) = false := decide_eq_false (by omega)
    clear c3
    obtain rfl := Option.some.inj H
    go_enter Try.func35, Try.ntmps35
    go_wp2_with (first | ((with_reducible refine gate_callee (f := 34) rfl ?_); refine goesL_ (some 5) rfl rfl Try.func34 (by kernel_rfl) rfl #[.string a0] rfl (by (try simp only [List.map_toArray, List.map_cons, List.map_nil]); first | done | rfl | (simp only [List.length_drop, List.length_take]; rfl)) ?_; (with_reducible refine (dwarf_splitDrive.calls k a0 t114 t115 _ A2.out).mono ?_); rintro e w10 ⟨rfl, hb⟩; refine ⟨_, rfl, ?_⟩; have n0_ := Aside0.mk (below_step (by repeat (first | (with_reducible first | exact HB.out | apply below_alloc | apply pw_below_drewN | apply below_drew1) | exact HB.out)) hb); clear HB; have HB := n0_; clear n0_; (try clear hb); (try clear hb2); (try clear hk); (try clear hi)))
    go_ret
    exact ⟨by first | rfl | (simp [errW_none, errW_some] <;> rfl) | (simp [*, errW_none, errW_some] <;> rfl), by repeat (first | (with_reducible first | exact HB.out | apply below_alloc | apply pw_below_drewN | apply below_drew1) | exact HB.out)⟩

/-! ### dwarf_PathIsAbs: function 29 -/
def dwarf_PathIsAbs.f (k : Nat) (a0 : ByteArray) : Option (Bool) := (dwarf_pathIsAbs.f k a0).bind fun t116 => (some t116)
theorem dwarf_PathIsAbs.mono : ∀ a0 k, LeO (dwarf_PathIsAbs.f k a0) (dwarf_PathIsAbs.f (k + 1) a0) := by
  intro a0 k
  unfold dwarf_PathIsAbs.f
  repeat' first
      | (with_reducible exact dwarf_pathIsAbs.mono _ _)
      | (with_reducible exact LeO.refl _)
      | (with_reducible exact LeO.none _)
      | (with_reducible refine LeO.ite ?_ ?_)
      | (with_reducible refine LeO.bind ?_ (fun _ => ?_))
      | exact dwarf_pathIsAbs.mono _ _
      | exact LeO.none _
      | refine LeO.ite ?_ ?_
      | refine LeO.bind ?_ (fun _ => ?_)
set_option maxHeartbeats 8000000 in
set_option maxRecDepth 100000 in
theorem dwarf_PathIsAbs.calls (k : Nat) (a0 : ByteArray) (r : Bool) (w : World) (h : dwarf_PathIsAbs.f k a0 = some r) :
    Calls Try.prog 29 #[.string a0] w fun e w' => e = .returned (.bool r) ∧ Below w.heap.size w w' := by
  have HB := Aside0.mk (Below.refl w.heap.size w)
  have H : ((dwarf_pathIsAbs.f k a0).bind fun t116 => (some t116)) = some r := h
  clear h
  replace H := Option.bind_eq_some_iff.mp H
  obtain ⟨t116, A20, H⟩ := H
  replace H : (some t116) = some r := H
  have A2 := Aside0.mk A20
  clear A20
  obtain rfl := Option.some.inj H
  go_enter Try.func29, Try.ntmps29
  go_wp2_with (first | ((with_reducible refine gate_callee (f := 35) rfl ?_); refine goesL_ (some 4) rfl rfl Try.func35 (by kernel_rfl) rfl #[.string a0] rfl (by (try simp only [List.map_toArray, List.map_cons, List.map_nil]); first | done | rfl | (simp only [List.length_drop, List.length_take]; rfl)) ?_; (with_reducible refine (dwarf_pathIsAbs.calls k a0 t116 _ A2.out).mono ?_); rintro e w3 ⟨rfl, hb⟩; refine ⟨_, rfl, ?_⟩; have n0_ := Aside0.mk (below_step (by repeat (first | (with_reducible first | exact HB.out | apply below_alloc | apply pw_below_drewN | apply below_drew1) | exact HB.out)) hb); clear HB; have HB := n0_; clear n0_; (try clear hb); (try clear hb2); (try clear hk); (try clear hi)))
  go_ret
  exact ⟨by first | rfl | (simp [errW_none, errW_some] <;> rfl) | (simp [*, errW_none, errW_some] <;> rfl), by repeat (first | (with_reducible first | exact HB.out | apply below_alloc | apply pw_below_drewN | apply below_drew1) | exact HB.out)⟩

/-! ### impl_PathIsAbs: function 20 -/
def impl_PathIsAbs.f (k : Nat) (a0 : ByteArray) : Option (Bool) := (dwarf_PathIsAbs.f k a0).bind fun t117 => (some t117)
theorem impl_PathIsAbs.mono : ∀ a0 k, LeO (impl_PathIsAbs.f k a0) (impl_PathIsAbs.f (k + 1) a0) := by
  intro a0 k
  unfold impl_PathIsAbs.f
  repeat' first
      | (with_reducible exact dwarf_PathIsAbs.mono _ _)
      | (with_reducible exact LeO.refl _)
      | (with_reducible exact LeO.none _)
      | (with_reducible refine LeO.ite ?_ ?_)
      | (with_reducible refine LeO.bind ?_ (fun _ => ?_))
      | exact dwarf_PathIsAbs.mono _ _
      | exact LeO.none _
      | refine LeO.ite ?_ ?_
      | refine LeO.bind ?_ (fun _ => ?_)
set_option maxHeartbeats 8000000 in
set_option maxRecDepth 100000 in
theorem impl_PathIsAbs.calls (k : Nat) (a0 : ByteArray) (r : Bool) (w : World) (h : impl_PathIsAbs.f k a0 = some r) :
    Calls Try.prog 20 #[.string a0] w fun e w' => e = .returned (.bool r) ∧ Below w.heap.size w w' := by
  have HB := Aside0.mk (Below.refl w.heap.size w)
  have H : ((dwarf_PathIsAbs.f k a0).bind fun t117 => (some t117)) = some r := h
  clear h
  replace H := Option.bind_eq_some_iff.mp H
  obtain ⟨t117, A20, H⟩ := H
  replace H : (some t117) = some r := H
  have A2 := Aside0.mk A20
  clear A20
  obtain rfl := Option.some.inj H
  go_enter Try.func20, Try.ntmps20
  go_wp2_with (first | ((with_reducible refine gate_callee (f := 29) rfl ?_); refine goesL_ (some 4) rfl rfl Try.func29 (by kernel_rfl) rfl #[.string a0] rfl (by (try simp only [List.map_toArray, List.map_cons, List.map_nil]); first | done | rfl | (simp only [List.length_drop, List.length_take]; rfl)) ?_; (with_reducible refine (dwarf_PathIsAbs.calls k a0 t117 _ A2.out).mono ?_); rintro e w3 ⟨rfl, hb⟩; refine ⟨_, rfl, ?_⟩; have n0_ := Aside0.mk (below_step (by repeat (first | (with_reducible first | exact HB.out | apply below_alloc | apply pw_below_drewN | apply below_drew1) | exact HB.out)) hb); clear HB; have HB := n0_; clear n0_; (try clear hb); (try clear hb2); (try clear hk); (try clear hi)))
  go_ret
  exact ⟨by first | rfl | (simp [errW_none, errW_some] <;> rfl) | (simp [*, errW_none, errW_some] <;> rfl), by repeat (first | (with_reducible first | exact HB.out | apply below_alloc | apply pw_below_drewN | apply below_drew1) | exact HB.out)⟩

/-- THE ONE PURE STATEMENT of impl_PathIsAbs: yours. -/
def impl_PathIsAbs.Pure : Prop := ∀ (a0 : ByteArray), a0.size ≤ 140737488351232 → ∃ k, impl_PathIsAbs.f k a0 = some true
theorem impl_PathIsAbs.walk (P : impl_PathIsAbs.Pure) (a0 : ByteArray) (w : World) (w0 : a0.size ≤ 140737488351232) :
    Calls Try.prog 20 #[.string a0] w fun e w' => e = .returned (.bool true) ∧ Below w.heap.size w w' := by
  obtain ⟨k, h⟩ := P a0 w0
  refine (impl_PathIsAbs.calls k a0 true w h).mono ?_
  rintro e w' ⟨rfl, hd⟩
  exact ⟨rfl, hd⟩

end Go.Proofs.Ytepealmdnaondaa.PAbs
