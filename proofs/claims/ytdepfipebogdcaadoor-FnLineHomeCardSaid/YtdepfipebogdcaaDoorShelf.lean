/-
  DERIVED: THE SHELF's CONTRACTS AT THIS DUMP, IN PLAIN WORDS (tools/lay-plain.mjs out of 'TrydShelf.lean', which tools/lay-shelf.mjs wrote): THE SAME DECLARATIONS UNDER THE SAME NAMES: 'import', 'namespace', 'open', 'def', 'theorem' AND NOTHING ELSE: no command of the shelf's: FOR A HAND-IN. Each laying: the table of numbers ('.._ren') and one theorem, a field a fact of the dump's own or the kernel's comparison; each contract: ONE APPLICATION.
-/
import Derived.Ground.PaProg
import Derived.Shelf.Path.Join
import Derived.Test.YtdepfipebogdcaaDoorProg
namespace Go.Proofs
open Go.Shelf
def Tryd.laysPah31_ren : Go.Shelf.Ren := ⟨fun | 31 => 59 | 30 => 72 | 46 => 79 | 47 => 80 | 48 => 81 | n => n, fun | 26 => 88 | 9 => 9 | 3 => 3 | 0 => 0 | 4 => 4 | 30 => 23 | 5 => 5 | 42 => 155 | 48 => 166 | n => n, fun | n => n⟩
theorem Tryd.laysPah31 : Go.Proofs.Lays.ph31 Tryd.prog Tryd.laysPah31_ren := {
  mixed := by kernel_rfl
  f30 := Tryd.func72.trans (congrArg some (by kernel_rfl))
  f31 := Tryd.func59.trans (congrArg some (by kernel_rfl))
  f46 := Tryd.func79.trans (congrArg some (by kernel_rfl))
  f47 := Tryd.func80.trans (congrArg some (by kernel_rfl))
  f48 := Tryd.func81.trans (congrArg some (by kernel_rfl))
  t0 := Tryd.underlying0
  a0 := Tryd.isAgg0
  z0 := Tryd.sizeOf0
  v0 := Tryd.zeroValue0
  t3 := Tryd.underlying3
  a3 := Tryd.isAgg3
  z3 := Tryd.sizeOf3
  v3 := Tryd.zeroValue3
  t4 := Tryd.underlying4
  a4 := Tryd.isAgg4
  z4 := Tryd.sizeOf4
  v4 := Tryd.zeroValue4
  t5 := Tryd.underlying5
  a5 := Tryd.isAgg5
  z5 := Tryd.sizeOf5
  v5 := Tryd.zeroValue5
  t9 := Tryd.underlying9
  a9 := Tryd.isAgg9
  z9 := Tryd.sizeOf9
  v9 := Tryd.zeroValue9
  t26 := Tryd.underlying88
  a26 := Tryd.isAgg88
  z26 := Tryd.sizeOf88
  v26 := Tryd.zeroValue88
  t30 := Tryd.underlying23
  a30 := Tryd.isAgg23
  z30 := Tryd.sizeOf23
  v30 := Tryd.zeroValue23
  t42 := Tryd.underlying155
  a42 := Tryd.isAgg155
  z42 := Tryd.sizeOf155
  v42 := Tryd.zeroValue155
  t48 := Tryd.underlying166
  a48 := Tryd.isAgg166
  z48 := Tryd.sizeOf166
  v48 := Tryd.zeroValue166
  info5 := by kernel_rfl }
open Go.RowKit Go.Lib in
/-- path.Join: "Join joins any number of path elements into a single path, separating them with slashes. Empty elements are ignored. The result is Cleaned. However, if the argument list is empty or all its elements are empty, Join returns an empty string.": THE ARGUMENT AS strings.Join's CONTRACT HAS IT: a slice of xs.length strings at ⟨bk, o⟩ whose cells hold xs ('hcells'), in memory that was there ('hbk'). IT RETURNS 'Pa.joinL (the elements)' (Derived/Lib/JoinFns.lean); what was there before the call is as it was ('Below'). IT ASKS that the elements' lengths and their number together stay within 2^48 (makeslice's own limit). (LAID: no walk: one application.) -/
theorem Tryd.path_Join (bk o c : Nat) (xs : List ByteArray) (w : World) (hcells : ∀ (j : Nat) x, xs[j]? = some x → w.cell? ⟨bk, o + j, none⟩ = some (.string x)) (hbk : bk < w.heap.size) (hlen : Pa.lens (xs.map (·.data.toList)) + xs.length ≤ 281474976710656) :
    Calls Tryd.prog 59 #[.slice (some ⟨bk, o, none⟩) xs.length c] w fun e w' => e = .returned (.string ⟨(Pa.joinL (xs.map (·.data.toList))).toArray⟩) ∧ Below w.heap.size w w' := Any.path_Join Tryd.laysPah31 bk o c xs w hcells hbk hlen
open Go.RowKit Go.Lib in
/-- path.Join WITHOUT AN ELEMENT (the variadic argument nil): IT RETURNS ""; the world is as it was. (LAID: no walk: one application.) -/
theorem Tryd.path_Join_nil (w : World) :
    Calls Tryd.prog 59 #[.slice none 0 0] w fun e w' => e = .returned (.string ⟨#[]⟩) ∧ w' = w := Any.path_Join_nil Tryd.laysPah31 w
end Go.Proofs
