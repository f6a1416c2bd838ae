/- The contract of laws.numbers.right, proved by hand. -/
import Derived.Test.YtnooghnbohjmlaaDoorMa
namespace Go.Proofs.YtnooghnbohjmlaaDoor.PPl
open Go.RowKit Go.Proofs.YtnooghnbohjmlaaDoorW.PrintWords Go.Proofs.YtnooghnbohjmlaaDoorW.PrintLast Go.Proofs.YtnooghnbohjmlaaDoorW.PrintMore
set_option linter.unusedVariables false
def laws_numbers_right.f (mi mo lb lr ob : Int) : Option Bool := some (decide ((0 ≤ mi ∧ mi < 256) ∧ (1 ≤ mo ∧ mo < 256) ∧ (-128 ≤ lb ∧ lb < 128) ∧ (1 ≤ lr ∧ lr < 256) ∧ (1 ≤ ob ∧ ob < 256)))
theorem zA {α : Type _} (l : List α) (i : Nat) (a : α) : l.toArray.setIfInBounds i a = (l.set i a).toArray := List.setIfInBounds_toArray ..
theorem zB {α : Type _} {x : α} {xs : List α} {a : α} : (x :: xs).set 0 a = a :: xs := List.set_cons_zero
theorem zC {α : Type _} {x : α} {xs : List α} {n : Nat} {a : α} : (x :: xs).set (n + 1) a = x :: xs.set n a := List.set_cons_succ
theorem qN {p : Prop} (q : p := by first | (simp only [putAll, Act.put, zA, zB, zC]; done) | (simp only [putAll, Act.put, zA, zB, zC]; rfl)) : p := q
theorem ret_b {a b : Bool} (h : a = b) : Ending.returned (.bool a) = .returned (.bool b) := by rw [h]
theorem laws_numbers_right.calls (a0_0 : Int) (a0_1 : Int) (a0_2 : Int) (a0_3 : Int) (a0_4 : Int) (r : Bool) (w : World) (h : laws_numbers_right.f a0_0 a0_1 a0_2 a0_3 a0_4 = some r) :
    Calls Tryd.prog 18 #[.agg #[.int .i64 a0_0, .int .i64 a0_1, .int .i64 a0_2, .int .i64 a0_3, .int .i64 a0_4]] w fun e w' => e = .returned (.bool r) ∧ Below w.heap.size w w' := by
  have hr : decide ((0 ≤ a0_0 ∧ a0_0 < 256) ∧ (1 ≤ a0_1 ∧ a0_1 < 256) ∧ (-128 ≤ a0_2 ∧ a0_2 < 128) ∧ (1 ≤ a0_3 ∧ a0_3 < 256) ∧ (1 ≤ a0_4 ∧ a0_4 < 256)) = r := Option.some.inj h
  clear h
  by_cases c0 : a0_0 ≥ 0
  rotate_left
  · have HR : Aside0 (r = false) := ⟨by rw [← hr]; exact decide_eq_false (by omega)⟩
    have f0 : decide (a0_0 ≥ 0) = false := decide_eq_false c0
    clear hr c0
    go_enter Tryd.func18, Tryd.ntmps18
    go_wp2_with fail
    go_ret
    exact ⟨ret_b HR.out.symm, below_alloc (Below.refl _ _) _⟩
  have f0 : decide (a0_0 ≥ 0) = true := decide_eq_true c0
  by_cases c1 : a0_0 < 256
  rotate_left
  · have HR : Aside0 (r = false) := ⟨by rw [← hr]; exact decide_eq_false (by omega)⟩
    have f1 : decide (a0_0 < 256) = false := decide_eq_false c1
    clear hr c1
    go_enter Tryd.func18, Tryd.ntmps18
    go_wp2_with fail
    go_ret
    exact ⟨ret_b HR.out.symm, below_alloc (Below.refl _ _) _⟩
  have f1 : decide (a0_0 < 256) = true := decide_eq_true c1
  by_cases c2 : a0_1 > 0
  rotate_left
  · have HR : Aside0 (r = false) := ⟨by rw [← hr]; exact decide_eq_false (by omega)⟩
    have f2 : decide (a0_1 > 0) = false := decide_eq_false c2
    clear hr c2
    go_enter Tryd.func18, Tryd.ntmps18
    go_wp2_with fail
    go_ret
    exact ⟨ret_b HR.out.symm, below_alloc (Below.refl _ _) _⟩
  have f2 : decide (a0_1 > 0) = true := decide_eq_true c2
  by_cases c3 : a0_1 < 256
  rotate_left
  · have HR : Aside0 (r = false) := ⟨by rw [← hr]; exact decide_eq_false (by omega)⟩
    have f3 : decide (a0_1 < 256) = false := decide_eq_false c3
    clear hr c3
    go_enter Tryd.func18, Tryd.ntmps18
    go_wp2_with fail
    go_ret
    exact ⟨ret_b HR.out.symm, below_alloc (Below.refl _ _) _⟩
  have f3 : decide (a0_1 < 256) = true := decide_eq_true c3
  by_cases c4 : a0_2 ≥ (-128)
  rotate_left
  · have HR : Aside0 (r = false) := ⟨by rw [← hr]; exact decide_eq_false (by omega)⟩
    have f4 : decide (a0_2 ≥ (-128)) = false := decide_eq_false c4
    clear hr c4
    go_enter Tryd.func18, Tryd.ntmps18
    go_wp2_with fail
    go_ret
    exact ⟨ret_b HR.out.symm, below_alloc (Below.refl _ _) _⟩
  have f4 : decide (a0_2 ≥ (-128)) = true := decide_eq_true c4
  by_cases c5 : a0_2 < 128
  rotate_left
  · have HR : Aside0 (r = false) := ⟨by rw [← hr]; exact decide_eq_false (by omega)⟩
    have f5 : decide (a0_2 < 128) = false := decide_eq_false c5
    clear hr c5
    go_enter Tryd.func18, Tryd.ntmps18
    go_wp2_with fail
    go_ret
    exact ⟨ret_b HR.out.symm, below_alloc (Below.refl _ _) _⟩
  have f5 : decide (a0_2 < 128) = true := decide_eq_true c5
  by_cases c6 : a0_3 > 0
  rotate_left
  · have HR : Aside0 (r = false) := ⟨by rw [← hr]; exact decide_eq_false (by omega)⟩
    have f6 : decide (a0_3 > 0) = false := decide_eq_false c6
    clear hr c6
    go_enter Tryd.func18, Tryd.ntmps18
    go_wp2_with fail
    go_ret
    exact ⟨ret_b HR.out.symm, below_alloc (Below.refl _ _) _⟩
  have f6 : decide (a0_3 > 0) = true := decide_eq_true c6
  by_cases c7 : a0_3 < 256
  rotate_left
  · have HR : Aside0 (r = false) := ⟨by rw [← hr]; exact decide_eq_false (by omega)⟩
    have f7 : decide (a0_3 < 256) = false := decide_eq_false c7
    clear hr c7
    go_enter Tryd.func18, Tryd.ntmps18
    go_wp2_with fail
    go_ret
    exact ⟨ret_b HR.out.symm, below_alloc (Below.refl _ _) _⟩
  have f7 : decide (a0_3 < 256) = true := decide_eq_true c7
  by_cases c8 : a0_4 > 0
  rotate_left
  · have HR : Aside0 (r = false) := ⟨by rw [← hr]; exact decide_eq_false (by omega)⟩
    have f8 : decide (a0_4 > 0) = false := decide_eq_false c8
    clear hr c8
    go_enter Tryd.func18, Tryd.ntmps18
    go_wp2_with fail
    go_ret
    exact ⟨ret_b HR.out.symm, below_alloc (Below.refl _ _) _⟩
  have f8 : decide (a0_4 > 0) = true := decide_eq_true c8
  by_cases c9 : a0_4 < 256
  rotate_left
  · have HR : Aside0 (r = false) := ⟨by rw [← hr]; exact decide_eq_false (by omega)⟩
    have f9 : decide (a0_4 < 256) = false := decide_eq_false c9
    clear hr c9
    go_enter Tryd.func18, Tryd.ntmps18
    go_wp2_with fail
    go_ret
    exact ⟨ret_b HR.out.symm, below_alloc (Below.refl _ _) _⟩
  have f9 : decide (a0_4 < 256) = true := decide_eq_true c9
  have HR : Aside0 (r = true) := ⟨by rw [← hr]; exact decide_eq_true (by omega)⟩
  clear hr
  go_enter Tryd.func18, Tryd.ntmps18
  go_wp2_with fail
  go_ret
  exact ⟨ret_b HR.out.symm, below_alloc (Below.refl _ _) _⟩
end Go.Proofs.YtnooghnbohjmlaaDoor.PPl
