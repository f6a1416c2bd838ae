/-
  No cell of these rows narrows 'for every input' (looked for: loops, veiled, ifaces, maps, wideKeys, modest, calm, conditions, laid).
  DERIVED. THE GIVEN ROWS OF THIS SEAT. 8 by the template 'for every input the law returns true; each argument reads behind the call as it read before'; 0 by the template 'total and deterministic' (their statements: YtepealmdnaondaaTotals.lean).
  GIVEN WITH THE SEED: the statements are not yours to turn. If you find one false, say at which input.
  Laid BY PROGRAM, IN A SANDBOX (cutbox-rows.mjs): the forced cells as the released guide's own fill.sh prints them over the translation 38984d0c30ca6fb8… (all of the seat's roots in one cut). By AI agents, Wed Nov 11 2026. No macro, syntax, notation, axiom, sorry.
-/
import Derived.Test.YtepealmdnaondaaChecked
import GoSem.Claim
import GoSem.ClaimJoined
import GoSem.ClaimMapViews
import Derived.JoinedTies
import Derived.KernelRfl
namespace Go.Proofs.Ytepealmdnaondaa
/- THE CELL 'sum', in the pinned program and in every row, IS THE sha256 OF THE DUMP (.gsa) THAT YtepealmdnaondaaProg.lean LOADS. Nothing in Lean hashes anything: it is a label: what it is worth is what the hold of that sum in a sandbox is worth. -/
noncomputable def Try.pinned : Pinned := { name := "ytepealmdnaondaa", sum := "38984d0c30ca6fb85b28694934c65c351695a543de3a156f42e581a28257e35a", checked := Try.checked }
namespace Rows
def none {H : Type} : Left H := { results := [], args := [] }

/-- 'laws.FnAppendRange': WHATEVER THE INPUT: true; the input reads as it did. -/
def fnAppendRangeSpec : ChangeSpec := { name := "fnAppendRange", fn := fun _ => fun
  | [d1, d2] => { results := [.lit (.bool true)], args := [d1, d2] }
  | _ => none }
def fnAppendRangeRow : OpenClaim := { program := "ytepealmdnaondaa", sum := "38984d0c30ca6fb85b28694934c65c351695a543de3a156f42e581a28257e35a", func := "loop.example/pub-g03025/laws.FnAppendRange", spec := "fnAppendRange", apart := false }
def FnAppendRangeSaid : Prop := fnAppendRangeRow.holds Try.pinned (OpenSpec.ofChange fnAppendRangeSpec)

/-- ITS FALSE NEIGHBOUR: 'it returns false'. Refute it at one input. -/
def fnAppendRangeWrong : ChangeSpec := { name := "fnAppendRange", fn := fun _ => fun
  | [d1, d2] => { results := [.lit (.bool false)], args := [d1, d2] }
  | _ => none }
def FnAppendRangeWrongFalsely : Prop := fnAppendRangeRow.holds Try.pinned (OpenSpec.ofChange fnAppendRangeWrong)

/-- 'laws.FnMergeOrder': WHATEVER THE INPUT: true; the input reads as it did. -/
def fnMergeOrderSpec : ChangeSpec := { name := "fnMergeOrder", fn := fun _ => fun
  | [d1, d2, d3] => { results := [.lit (.bool true)], args := [d1, d2, d3] }
  | _ => none }
def fnMergeOrderRow : OpenClaim := { program := "ytepealmdnaondaa", sum := "38984d0c30ca6fb85b28694934c65c351695a543de3a156f42e581a28257e35a", func := "loop.example/pub-g03025/laws.FnMergeOrder", spec := "fnMergeOrder", apart := false }
def FnMergeOrderSaid : Prop := fnMergeOrderRow.holds Try.pinned (OpenSpec.ofChange fnMergeOrderSpec)

/-- ITS FALSE NEIGHBOUR: 'it returns false'. Refute it at one input. -/
def fnMergeOrderWrong : ChangeSpec := { name := "fnMergeOrder", fn := fun _ => fun
  | [d1, d2, d3] => { results := [.lit (.bool false)], args := [d1, d2, d3] }
  | _ => none }
def FnMergeOrderWrongFalsely : Prop := fnMergeOrderRow.holds Try.pinned (OpenSpec.ofChange fnMergeOrderWrong)

/-- 'laws.FnMergeRanges': WHATEVER THE INPUT: true; the input reads as it did. -/
def fnMergeRangesSpec : ChangeSpec := { name := "fnMergeRanges", fn := fun _ => fun
  | [d1, d2, d3] => { results := [.lit (.bool true)], args := [d1, d2, d3] }
  | _ => none }
def fnMergeRangesRow : OpenClaim := { program := "ytepealmdnaondaa", sum := "38984d0c30ca6fb85b28694934c65c351695a543de3a156f42e581a28257e35a", func := "loop.example/pub-g03025/laws.FnMergeRanges", spec := "fnMergeRanges", apart := false }
def FnMergeRangesSaid : Prop := fnMergeRangesRow.holds Try.pinned (OpenSpec.ofChange fnMergeRangesSpec)

/-- ITS FALSE NEIGHBOUR: 'it returns false'. Refute it at one input. -/
def fnMergeRangesWrong : ChangeSpec := { name := "fnMergeRanges", fn := fun _ => fun
  | [d1, d2, d3] => { results := [.lit (.bool false)], args := [d1, d2, d3] }
  | _ => none }
def FnMergeRangesWrongFalsely : Prop := fnMergeRangesRow.holds Try.pinned (OpenSpec.ofChange fnMergeRangesWrong)

/-- 'laws.FnUnifyRanges': WHATEVER THE INPUT: true; the input reads as it did. -/
def fnUnifyRangesSpec : ChangeSpec := { name := "fnUnifyRanges", fn := fun _ => fun
  | [d1, d2] => { results := [.lit (.bool true)], args := [d1, d2] }
  | _ => none }
def fnUnifyRangesRow : OpenClaim := { program := "ytepealmdnaondaa", sum := "38984d0c30ca6fb85b28694934c65c351695a543de3a156f42e581a28257e35a", func := "loop.example/pub-g03025/laws.FnUnifyRanges", spec := "fnUnifyRanges", apart := false }
def FnUnifyRangesSaid : Prop := fnUnifyRangesRow.holds Try.pinned (OpenSpec.ofChange fnUnifyRangesSpec)

/-- ITS FALSE NEIGHBOUR: 'it returns false'. Refute it at one input. -/
def fnUnifyRangesWrong : ChangeSpec := { name := "fnUnifyRanges", fn := fun _ => fun
  | [d1, d2] => { results := [.lit (.bool false)], args := [d1, d2] }
  | _ => none }
def FnUnifyRangesWrongFalsely : Prop := fnUnifyRangesRow.holds Try.pinned (OpenSpec.ofChange fnUnifyRangesWrong)

/-- 'laws.FnSplitDrive': WHATEVER THE INPUT: true; the input reads as it did. -/
def fnSplitDriveSpec : ChangeSpec := { name := "fnSplitDrive", fn := fun _ => fun
  | [d] => { results := [.lit (.bool true)], args := [d] }
  | _ => none }
def fnSplitDriveRow : OpenClaim := { program := "ytepealmdnaondaa", sum := "38984d0c30ca6fb85b28694934c65c351695a543de3a156f42e581a28257e35a", func := "loop.example/pub-g03025/laws.FnSplitDrive", spec := "fnSplitDrive", inPlace := ["internal/bytealg.IndexByteString"], apart := false }
def FnSplitDriveSaid : Prop := fnSplitDriveRow.holds Try.pinned (OpenSpec.ofChange fnSplitDriveSpec)

/-- ITS FALSE NEIGHBOUR: 'it returns false'. Refute it at one input. -/
def fnSplitDriveWrong : ChangeSpec := { name := "fnSplitDrive", fn := fun _ => fun
  | [d] => { results := [.lit (.bool false)], args := [d] }
  | _ => none }
def FnSplitDriveWrongFalsely : Prop := fnSplitDriveRow.holds Try.pinned (OpenSpec.ofChange fnSplitDriveWrong)

/-- 'laws.FnSplitShare': WHATEVER THE INPUT: true; the input reads as it did. -/
def fnSplitShareSpec : ChangeSpec := { name := "fnSplitShare", fn := fun _ => fun
  | [d1, d2, d3] => { results := [.lit (.bool true)], args := [d1, d2, d3] }
  | _ => none }
def fnSplitShareRow : OpenClaim := { program := "ytepealmdnaondaa", sum := "38984d0c30ca6fb85b28694934c65c351695a543de3a156f42e581a28257e35a", func := "loop.example/pub-g03025/laws.FnSplitShare", spec := "fnSplitShare", inPlace := ["internal/bytealg.IndexByteString"], apart := false }
def FnSplitShareSaid : Prop := fnSplitShareRow.holds Try.pinned (OpenSpec.ofChange fnSplitShareSpec)

/-- ITS FALSE NEIGHBOUR: 'it returns false'. Refute it at one input. -/
def fnSplitShareWrong : ChangeSpec := { name := "fnSplitShare", fn := fun _ => fun
  | [d1, d2, d3] => { results := [.lit (.bool false)], args := [d1, d2, d3] }
  | _ => none }
def FnSplitShareWrongFalsely : Prop := fnSplitShareRow.holds Try.pinned (OpenSpec.ofChange fnSplitShareWrong)

/-- 'laws.FnPathAbs': WHATEVER THE INPUT: true; the input reads as it did. -/
def fnPathAbsSpec : ChangeSpec := { name := "fnPathAbs", fn := fun _ => fun
  | [d1, d2] => { results := [.lit (.bool true)], args := [d1, d2] }
  | _ => none }
def fnPathAbsRow : OpenClaim := { program := "ytepealmdnaondaa", sum := "38984d0c30ca6fb85b28694934c65c351695a543de3a156f42e581a28257e35a", func := "loop.example/pub-g03025/laws.FnPathAbs", spec := "fnPathAbs", inPlace := ["internal/bytealg.IndexByteString"], apart := false }
def FnPathAbsSaid : Prop := fnPathAbsRow.holds Try.pinned (OpenSpec.ofChange fnPathAbsSpec)

/-- ITS FALSE NEIGHBOUR: 'it returns false'. Refute it at one input. -/
def fnPathAbsWrong : ChangeSpec := { name := "fnPathAbs", fn := fun _ => fun
  | [d1, d2] => { results := [.lit (.bool false)], args := [d1, d2] }
  | _ => none }
def FnPathAbsWrongFalsely : Prop := fnPathAbsRow.holds Try.pinned (OpenSpec.ofChange fnPathAbsWrong)

/-- 'laws.FnEntryVal': WHATEVER THE INPUT: true; the input reads as it did. -/
def fnEntryValSpec : ChangeSpec := { name := "fnEntryVal", fn := fun _ => fun
  | [d1, d2] => { results := [.lit (.bool true)], args := [d1, d2] }
  | _ => none }
def fnEntryValRow : OpenClaim := { program := "ytepealmdnaondaa", sum := "38984d0c30ca6fb85b28694934c65c351695a543de3a156f42e581a28257e35a", func := "loop.example/pub-g03025/laws.FnEntryVal", spec := "fnEntryVal", apart := false }
def FnEntryValSaid : Prop := fnEntryValRow.holds Try.pinned (OpenSpec.ofChange fnEntryValSpec)

/-- ITS FALSE NEIGHBOUR: 'it returns false'. Refute it at one input. -/
def fnEntryValWrong : ChangeSpec := { name := "fnEntryVal", fn := fun _ => fun
  | [d1, d2] => { results := [.lit (.bool false)], args := [d1, d2] }
  | _ => none }
def FnEntryValWrongFalsely : Prop := fnEntryValRow.holds Try.pinned (OpenSpec.ofChange fnEntryValWrong)

/- THE SECOND FORM. 'bulk': how many values and letters a reading holds, each counted each time it is reached (what is shared counts as often as it is met; a slice's spare places count too). A statement '..UptoSaid' is the law's where the arguments, and the package variables that the reading takes, are together of bulk at most 1048576: NARROWER than '..Said'. Prove '..Said' where nothing that the law and all that it calls make is longer than what came in: it says more and counts as full. Else prove '..UptoSaid'. A law counts once. -/
mutual
def uptoBulk {H : Type} : DataW H → Nat
  | .lit (.string bytes) => bytes.length + 1
  | .lit _ => 1
  | .nil => 1
  | .ptr d => uptoBulk d + 1
  | .slice elems spare => uptoBulkAll elems + uptoBulkAll spare + 1
  | .agg parts => uptoBulkAll parts + 1
  | .iface _ d => uptoBulk d + 1
  | .map entries => uptoBulkEntries entries + 1
  | .held _ => 1
def uptoBulkAll {H : Type} : List (DataW H) → Nat
  | [] => 0
  | d :: r => uptoBulk d + uptoBulkAll r
def uptoBulkEntries {H : Type} : List (Lit × DataW H) → Nat
  | [] => 0
  | x :: r => uptoBulkEntry x + uptoBulkEntries r
def uptoBulkEntry {H : Type} : Lit × DataW H → Nat
  | (.string bytes, d) => bytes.length + uptoBulk d + 1
  | (_, d) => uptoBulk d + 1
 end
def uptoSmall : (H : Type) → List (DataW H) → Bool := fun _ ds => decide (uptoBulkAll ds ≤ 1048576)
def OpenSpec.upto (s : _root_.Go.ChangeSpec) : _root_.Go.OpenSpec := { _root_.Go.OpenSpec.ofChange s with cond := some uptoSmall }

/-- 'laws.FnAppendRange', WHERE WHAT IT READS IS OF BULK AT MOST 1048576: true; the input reads as it did. -/
def fnAppendRangeUptoRow : OpenClaim := { program := "ytepealmdnaondaa", sum := "38984d0c30ca6fb85b28694934c65c351695a543de3a156f42e581a28257e35a", func := "loop.example/pub-g03025/laws.FnAppendRange", spec := "fnAppendRange", apart := false, narrowed := true }
def FnAppendRangeUptoSaid : Prop := fnAppendRangeUptoRow.holds Try.pinned (OpenSpec.upto fnAppendRangeSpec)

/-- 'laws.FnMergeOrder', WHERE WHAT IT READS IS OF BULK AT MOST 1048576: true; the input reads as it did. -/
def fnMergeOrderUptoRow : OpenClaim := { program := "ytepealmdnaondaa", sum := "38984d0c30ca6fb85b28694934c65c351695a543de3a156f42e581a28257e35a", func := "loop.example/pub-g03025/laws.FnMergeOrder", spec := "fnMergeOrder", apart := false, narrowed := true }
def FnMergeOrderUptoSaid : Prop := fnMergeOrderUptoRow.holds Try.pinned (OpenSpec.upto fnMergeOrderSpec)

/-- 'laws.FnMergeRanges', WHERE WHAT IT READS IS OF BULK AT MOST 1048576: true; the input reads as it did. -/
def fnMergeRangesUptoRow : OpenClaim := { program := "ytepealmdnaondaa", sum := "38984d0c30ca6fb85b28694934c65c351695a543de3a156f42e581a28257e35a", func := "loop.example/pub-g03025/laws.FnMergeRanges", spec := "fnMergeRanges", apart := false, narrowed := true }
def FnMergeRangesUptoSaid : Prop := fnMergeRangesUptoRow.holds Try.pinned (OpenSpec.upto fnMergeRangesSpec)

/-- 'laws.FnUnifyRanges', WHERE WHAT IT READS IS OF BULK AT MOST 1048576: true; the input reads as it did. -/
def fnUnifyRangesUptoRow : OpenClaim := { program := "ytepealmdnaondaa", sum := "38984d0c30ca6fb85b28694934c65c351695a543de3a156f42e581a28257e35a", func := "loop.example/pub-g03025/laws.FnUnifyRanges", spec := "fnUnifyRanges", apart := false, narrowed := true }
def FnUnifyRangesUptoSaid : Prop := fnUnifyRangesUptoRow.holds Try.pinned (OpenSpec.upto fnUnifyRangesSpec)

/-- 'laws.FnSplitDrive', WHERE WHAT IT READS IS OF BULK AT MOST 1048576: true; the input reads as it did. -/
def fnSplitDriveUptoRow : OpenClaim := { program := "ytepealmdnaondaa", sum := "38984d0c30ca6fb85b28694934c65c351695a543de3a156f42e581a28257e35a", func := "loop.example/pub-g03025/laws.FnSplitDrive", spec := "fnSplitDrive", inPlace := ["internal/bytealg.IndexByteString"], apart := false, narrowed := true }
def FnSplitDriveUptoSaid : Prop := fnSplitDriveUptoRow.holds Try.pinned (OpenSpec.upto fnSplitDriveSpec)

/-- 'laws.FnSplitShare', WHERE WHAT IT READS IS OF BULK AT MOST 1048576: true; the input reads as it did. -/
def fnSplitShareUptoRow : OpenClaim := { program := "ytepealmdnaondaa", sum := "38984d0c30ca6fb85b28694934c65c351695a543de3a156f42e581a28257e35a", func := "loop.example/pub-g03025/laws.FnSplitShare", spec := "fnSplitShare", inPlace := ["internal/bytealg.IndexByteString"], apart := false, narrowed := true }
def FnSplitShareUptoSaid : Prop := fnSplitShareUptoRow.holds Try.pinned (OpenSpec.upto fnSplitShareSpec)

/-- 'laws.FnPathAbs', WHERE WHAT IT READS IS OF BULK AT MOST 1048576: true; the input reads as it did. -/
def fnPathAbsUptoRow : OpenClaim := { program := "ytepealmdnaondaa", sum := "38984d0c30ca6fb85b28694934c65c351695a543de3a156f42e581a28257e35a", func := "loop.example/pub-g03025/laws.FnPathAbs", spec := "fnPathAbs", inPlace := ["internal/bytealg.IndexByteString"], apart := false, narrowed := true }
def FnPathAbsUptoSaid : Prop := fnPathAbsUptoRow.holds Try.pinned (OpenSpec.upto fnPathAbsSpec)

/-- 'laws.FnEntryVal', WHERE WHAT IT READS IS OF BULK AT MOST 1048576: true; the input reads as it did. -/
def fnEntryValUptoRow : OpenClaim := { program := "ytepealmdnaondaa", sum := "38984d0c30ca6fb85b28694934c65c351695a543de3a156f42e581a28257e35a", func := "loop.example/pub-g03025/laws.FnEntryVal", spec := "fnEntryVal", apart := false, narrowed := true }
def FnEntryValUptoSaid : Prop := fnEntryValUptoRow.holds Try.pinned (OpenSpec.upto fnEntryValSpec)

end Rows
end Go.Proofs.Ytepealmdnaondaa
