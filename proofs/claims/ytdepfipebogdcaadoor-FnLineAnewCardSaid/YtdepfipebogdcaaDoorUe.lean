/- Texts of this session, joined: GLaid, GWit. -/
import Derived.Test.YtdepfipebogdcaaDoorUd
import Derived.Test.YtdepfipebogdcaaDoorRows
import Derived.ProofKit
import Derived.LaidMore
import Derived.OpenShut
import Derived.Stop.Joined
import Derived.Stop.LaidErr
import Derived.WideKeyElems2
import Derived.Maps.Keyed
import Derived.Lay
set_option linter.unusedVariables false
set_option linter.unusedSimpArgs false
/- The package's variables that the rows list as laid, as the walks want them. -/
namespace Go.Proofs.YtdepfipebogdcaaDoor.Laid
set_option maxRecDepth 100000
open Go.ChangeShapes Go.WideShapes Go.ChangeAt Go.WideMaps Go.WideElems Go.RowKit Go.Proofs.YtdepfipebogdcaaDoor.PPl Go.Proofs.YtdepfipebogdcaaDoor.Line

/-- What a reading of the map tells. -/
def told : DataW Unit → Option (Option Int)
  | .lit (.int .i64 n) => some (some n)
  | .nil => some none
  | _ => none
theorem told_known : ((List.range 256).all fun i => told ((Rows.laid_loop_example_pub_g03025_pub_dwarf_knownOpcodeLengths (H := Unit)).atKey (.int .i64 (i : Int)) .nil) == some (known i)) = true := by kernel_rfl
theorem row_ptr (u : TypeId) (h : Tryd.prog.typeName? 3 u = some "*errors.errorString") : u = 175 := by
  have star : "*" ++ "errors.errorString" = "*errors.errorString" := by decide
  exact typeName_ptr_named (nm := "errors.errorString") (by rw [star]; kernel_rfl) (by kernel_rfl) (by decide) u (by rw [star]; exact h)
theorem glob_of {W : World} (h : laidMetH Tryd.prog Rows.fnLineSetRow.laid W) : Glob W := by
  rw [MakeChecks.laidMetH_plain _ _ _ (by kernel_rfl)] at h
  have h1 := laidMet.tail h
  obtain ⟨ea, s, hv, _, _, _⟩ := laid_sentinel h1 (show Tryd.prog.globalNamed "io.EOF" = some 0 by kernel_rfl) (show (Tryd.prog.globals[0]?).map (·.type) = some 61 by kernel_rfl) Tryd.underlying61 row_ptr Tryd.underlying175 Tryd.underlying213 rfl rfl Tryd.underlying9 (by kernel_rfl) (by kernel_rfl)
  have hE : W.cell? ⟨0, 0, none⟩ = some (.iface 175 (.pointer (some ea))) := by
    have := World.var?_cell (show Tryd.prog.globalNamed "io.EOF" = some 0 by kernel_rfl) hv 0
    simpa using this
  have h4 := laidMet.tail (laidMet.tail (laidMet.tail h1))
  obtain ⟨ps, ⟨g0, t0, cs0, f0, p0, q0, hg0, ht0, hv0, hd0, _, _⟩, _, _⟩ := h4
  have gK : Tryd.prog.globalNamed "loop.example/pub-g03025/pub/dwarf.knownOpcodeLengths" = some 2 := by kernel_rfl
  have tK : (Tryd.prog.globals[2]?).map (·.type) = some 119 := by kernel_rfl
  obtain rfl := Option.some.inj (gK.symm.trans hg0)
  obtain rfl := Option.some.inj (tK.symm.trans ht0)
  rcases open_map Tryd.underlying119 hd0 with ⟨_, hx⟩ | ⟨bm, es, clock, m, rfl, hcs, hb, _, F, hx⟩
  · simp [Rows.laid_loop_example_pub_g03025_pub_dwarf_knownOpcodeLengths] at hx
  simp only [Prod.mk.injEq] at hx
  have hcell : W.cell? ⟨2, 0, none⟩ = some (.map (some bm)) := by
    have := World.var?_cell hg0 hv0 0
    rw [Array.eq_one_of_toList hcs] at this
    simpa using this
  refine ⟨bm, ea, ⟨hcell, (Array.getElem?_eq_some_iff.1 hb).1, fun w' hw i hi => ?_⟩, World.block_lt_of_cell? W _ hcell, hE⟩
  have zero : (zeroValue 3).run Tryd.prog w' = .ok (.int .i64 0) w' := by kernel_rfl
  have hk := List.all_eq_true.1 told_known i (List.mem_range.2 hi)
  rw [beq_iff_eq] at hk
  rcases Maps.fit_look (w := w') true (Maps.int_keyed Tryd.underlying3) Tryd.underlying119 zero (hw.trans hb) F (Maps.keyOf_int_mk (a := (i : Int)) Tryd.underlying3 (by simp [Lit.wf, IntKind.min, IntKind.max, IntKind.bits, IntKind.signed]; omega)) with ⟨hrun, _, hat⟩ | ⟨e0, y, _, _, hrun, hRv, hat, _⟩
  · have := hat .nil
    rw [← hx.1] at this
    rw [this] at hk
    have hn : known i = none := by
      have h2 : some (none : Option Int) = some (known i) := hk
      exact (Option.some.inj h2).symm
    rw [hn]
    exact hrun
  · obtain ⟨r, hr, rfl, _⟩ := elemAt_int Tryd.underlying3 hRv
    have := hat .nil
    rw [← hx.1] at this
    rw [this] at hk
    have hn : known i = some r := by
      have h2 : some (some r) = some (known i) := hk
      exact (Option.some.inj h2).symm
    rw [hn]
    rw [hr] at hrun
    exact hrun
end Go.Proofs.YtdepfipebogdcaaDoor.Laid

/- A world in which the listed variables are laid. -/
namespace Go.Proofs.YtdepfipebogdcaaDoor.Laid
set_option maxRecDepth 100000
open Go.ChangeShapes Go.WideShapes Go.ChangeAt Go.RowKit

/-- The map's block. -/
def mapObj : Obj := .map #[⟨.int .i64 1, .int .i64 0, 0⟩, ⟨.int .i64 2, .int .i64 1, 1⟩, ⟨.int .i64 3, .int .i64 1, 2⟩, ⟨.int .i64 4, .int .i64 1, 3⟩, ⟨.int .i64 6, .int .i64 0, 4⟩, ⟨.int .i64 7, .int .i64 0, 5⟩, ⟨.int .i64 8, .int .i64 0, 6⟩, ⟨.int .i64 10, .int .i64 0, 7⟩, ⟨.int .i64 11, .int .i64 0, 8⟩, ⟨.int .i64 12, .int .i64 1, 9⟩] 10
/-- How many blocks there are at first. -/
noncomputable def size0 : Nat := (begin Tryd.prog (fun _ _ => 0) default).world.heap.size
noncomputable def mapWorld (os : Os) : World := (World.holding Tryd.prog os ⟨#[mapObj], #[], []⟩).setCell ⟨2, 0, none⟩ (.map (some size0))
/-- The variables that are laid by the function. -/
def great : List String := ["unicode/utf8.acceptRanges", "io.EOF", "unicode.asciiFold", "unicode.caseOrbit", "loop.example/pub-g03025/pub/dwarf.ErrUnknownPC", "unicode.CaseRanges", "unicode/utf8.first"]
noncomputable def wit (os : Os) : World := (mapWorld os).layVars Tryd.prog (Rows.fnLineSetRow.laid.filter fun x => great.contains x.1)
theorem wit_os (os : Os) : (wit os).os = os := World.layVars_os _ _ _
theorem wit_met (os : Os) (args : Array Value) : laidMetH Tryd.prog Rows.fnLineSetRow.laid ((wit os).forCall (fun _ _ => 0) ⟨#[], args, []⟩).memory := by
  rw [MakeChecks.laidMetH_plain _ _ _ (by kernel_rfl)]
  have h : laidMet Tryd.prog Rows.fnLineSetRow.laid (wit os) := laidMet_layVars (w0 := mapWorld os) great [2, size0] rfl (by kernel_rfl) (by kernel_rfl) (LaidIn.of_run _ 8 (by kernel_rfl) (by kernel_rfl) (by kernel_rfl) (by kernel_rfl))
  exact h.of_heap (by simp [World.memory, World.forCall, Input.heap])
theorem wit_shaped (os : Os) (args : Array Value) : ((wit os).forCall (fun _ _ => 0) ⟨#[], args, []⟩).Shaped Tryd.prog := World.shaped_of_ZipB (by kernel_rfl) (by kernel_rfl)
end Go.Proofs.YtdepfipebogdcaaDoor.Laid
