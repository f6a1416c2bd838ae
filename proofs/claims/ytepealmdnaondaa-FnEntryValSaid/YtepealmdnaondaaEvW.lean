/- impl.valueOf, walked. -/
import Derived.Test.YtepealmdnaondaaPEvx0
import Derived.Handy
namespace Go.Proofs.Ytepealmdnaondaa.Ev
set_option maxRecDepth 100000
open Go Go.RowKit Go.Proofs.Ytepealmdnaondaa.PEv Go.Proofs.YtepealmdnaondaaW.PrintWords Go.Proofs.YtepealmdnaondaaW.PrintLast Go.Proofs.YtepealmdnaondaaW.PrintMore

@[go_sem] theorem as9_40 (v : Value) (w : World) : (Instr.typeAssert (.iface 9 v) 20 40 true).run Try.prog w = .ok (.tuple #[.int .u64 0, .bool false]) w := by kernel_rfl
@[go_sem] theorem as9_2 (v : Value) (w : World) : (Instr.typeAssert (.iface 9 v) 20 2 true).run Try.prog w = .ok (.tuple #[.int .i64 0, .bool false]) w := by kernel_rfl
@[go_sem] theorem as9_4 (v : Value) (w : World) : (Instr.typeAssert (.iface 9 v) 20 4 true).run Try.prog w = .ok (.tuple #[.bool false, .bool false]) w := by kernel_rfl
@[go_sem] theorem as9_9 (v : Value) (w : World) : (Instr.typeAssert (.iface 9 v) 20 9 true).run Try.prog w = .ok (.tuple #[v, .bool true]) w := by kernel_rfl
@[go_sem] theorem as2_40 (v : Value) (w : World) : (Instr.typeAssert (.iface 2 v) 20 40 true).run Try.prog w = .ok (.tuple #[.int .u64 0, .bool false]) w := by kernel_rfl
@[go_sem] theorem as2_2 (v : Value) (w : World) : (Instr.typeAssert (.iface 2 v) 20 2 true).run Try.prog w = .ok (.tuple #[v, .bool true]) w := by kernel_rfl
theorem value_text (s : ByteArray) (c : Int) (w : World) : Calls Try.prog 33 #[.iface 9 (.string s), .int .i64 c] w fun e w' => e = .returned (.agg #[.int .i64 c, .int .i64 4, .int .u64 0, .string s, .slice none 0 0]) ∧ Below w.heap.size w w' := by
  have HB := Aside0.mk (Below.refl w.heap.size w)
  go_enter Try.func33, Try.ntmps33
  go_wp2_with fail
  go_returns
  exact ⟨rfl, by repeat (first | (with_reducible first | exact HB.out | apply below_alloc | apply pw_below_drewN | apply below_drew1 | refine below_set ?_ (Nat.le_refl _) | refine below_set ?_ (by simp)) | exact HB.out)⟩
theorem value_int (n c : Int) (w : World) : Calls Try.prog 33 #[.iface 2 (.int .i64 n), .int .i64 c] w fun e w' => e = .returned (.agg #[.int .i64 c, .int .i64 2, .int .u64 (IntKind.u64.wrap n), .string ⟨#[]⟩, .slice none 0 0]) ∧ Below w.heap.size w w' := by
  have HB := Aside0.mk (Below.refl w.heap.size w)
  go_enter Try.func33, Try.ntmps33
  go_wp2_with fail
  go_returns
  exact ⟨rfl, by repeat (first | (with_reducible first | exact HB.out | apply below_alloc | apply pw_below_drewN | apply below_drew1 | refine below_set ?_ (Nat.le_refl _) | refine below_set ?_ (by simp)) | exact HB.out)⟩
end Go.Proofs.Ytepealmdnaondaa.Ev
