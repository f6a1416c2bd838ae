/- There is no unit's length in fewer bytes than it has. No conditions beyond the statement's own. -/
import Derived.Test.YtkgkdppjopilmaaPUnitx2
import Derived.Test.YtkgkdppjopilmaaPureFnUnitLengthIs
namespace Go.Proofs.Ytkgkdppjopilmaa.Pure
open Go.RowKit Go.Proofs.Ytkgkdppjopilmaa.PUnit Go.Proofs.YtkgkdppjopilmaaW.PrintWords Go.Proofs.YtkgkdppjopilmaaW.PrintLast Go.Proofs.YtkgkdppjopilmaaW.PrintMore Go.Proofs.Ytkgkdppjopilmaa.Leb Go.Proofs.Ytkgkdppjopilmaa.Given Go.Proofs.Ytkgkdppjopilmaa.Buf

def noughts (wide : Bool) : List Int := if wide then [255, 255, 255, 255, 0, 0, 0, 0, 0, 0, 0, 0] else [0, 0, 0, 0]
theorem short_no (wide big : Bool) : ∀ m : Nat, m < (noughts wide).length → (unitOf big ((noughts wide).take m)).2.2.2 = false := by
  cases wide <;> cases big <;> decide
theorem whole (wide big : Bool) : unitOf big (noughts wide) = (0, wide, ((noughts wide).length : Int), true) := by
  cases wide <;> cases big <;> decide
theorem lengthy (wide big : Bool) : spec_Lengthy.f 20 [] wide big = some (noughts wide) := by
  have f4 : ∀ n big, spec_Fixed.f 20 n 4 big = some (inOrder big (le4 n)) := fun n big => fixed4 n big 11
  have f8 : ∀ n big, spec_Fixed.f 20 n 8 big = some (inOrder big (le8 n)) := fun n big => fixed8 n big 11
  have w0 : IntKind.u64.wrap 0 = 0 := by decide
  cases wide <;> cases big <;> simp [spec_Lengthy.f, spec_Offset.f, f4, f8, w0, inOrder, le4, le8, noughts]
theorem noughts_bytes (wide : Bool) : Bytes (noughts wide) := by
  intro b hb
  cases wide <;> simp [noughts] at hb <;> omega

theorem FnUnitLengthShort : laws_FnUnitLengthShort.Pure := by
  intro wide big a _
  refine ⟨20, ?_⟩
  have done : laws_FnUnitLengthShort.j0 20 wide big a (noughts wide) true = some true := by simp only [laws_FnUnitLengthShort.j0]; rw [if_pos trivial]
  unfold laws_FnUnitLengthShort.f
  rw [lengthy]
  simp only [Option.bind_some]
  have hlen : (noughts wide).length ≤ 12 := by cases wide <;> decide
  by_cases c2 : a < 0
  · rw [if_pos c2, done]
  by_cases c3 : a ≥ ((noughts wide).length : Int)
  · rw [if_neg c2, decide_eq_true c3, done]
  rw [if_neg c2, decide_eq_false c3]
  obtain ⟨m, rfl⟩ := Int.eq_ofNat_of_zero_le (by omega : 0 ≤ a)
  simp only [laws_FnUnitLengthShort.j0]
  rw [if_neg (by decide), if_pos (by omega), if_pos (by omega), Int.toNat_natCast, impl_UnitLength_f _ _ (by simp; omega) ((noughts_bytes wide).take m), impl_UnitLength_f _ _ (by omega) (noughts_bytes wide)]
  simp only [Option.bind_some, short_no wide big m (by omega), whole]
  simp

end Go.Proofs.Ytkgkdppjopilmaa.Pure
