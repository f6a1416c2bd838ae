/-
  No cell of these rows narrows 'for every input' (looked for: loops, veiled, ifaces, maps, wideKeys, modest, calm, conditions, laid).
  DERIVED. THE GIVEN ROWS OF THIS SEAT. 11 by the template 'for every input the law returns true; each argument reads behind the call as it read before'; 0 by the template 'total and deterministic' (their statements: YtkgkdppjopilmaaTotals.lean).
  GIVEN WITH THE SEED: the statements are not yours to turn. If you find one false, say at which input.
  Laid BY PROGRAM, IN A SANDBOX (cutbox-rows.mjs): the forced cells as the released guide's own fill.sh prints them over the translation 1f8f9ce94fbcf441… (all of the seat's roots in one cut). By AI agents, Wed Nov 11 2026. No macro, syntax, notation, axiom, sorry.
-/
import Derived.Test.YtkgkdppjopilmaaChecked
import GoSem.Claim
import GoSem.ClaimJoined
import GoSem.ClaimMapViews
import Derived.JoinedTies
import Derived.KernelRfl
namespace Go.Proofs.Ytkgkdppjopilmaa
/- THE CELL 'sum', in the pinned program and in every row, IS THE sha256 OF THE DUMP (.gsa) THAT YtkgkdppjopilmaaProg.lean LOADS. Nothing in Lean hashes anything: it is a label: what it is worth is what the hold of that sum in a sandbox is worth. -/
noncomputable def Try.pinned : Pinned := { name := "ytkgkdppjopilmaa", sum := "1f8f9ce94fbcf4410df2b6159f4b561ef4da2b1b68527b13dec138542cb660d4", checked := Try.checked }
namespace Rows
def none {H : Type} : Left H := { results := [], args := [] }

/-- 'laws.FnAppendUnsignedIs': WHATEVER THE INPUT: true; the input reads as it did. -/
def fnAppendUnsignedIsSpec : ChangeSpec := { name := "fnAppendUnsignedIs", fn := fun _ => fun
  | [d1, d2] => { results := [.lit (.bool true)], args := [d1, d2] }
  | _ => none }
def fnAppendUnsignedIsRow : OpenClaim := { program := "ytkgkdppjopilmaa", sum := "1f8f9ce94fbcf4410df2b6159f4b561ef4da2b1b68527b13dec138542cb660d4", func := "loop.example/pub-g03025/laws.FnAppendUnsignedIs", spec := "fnAppendUnsignedIs", apart := false }
def FnAppendUnsignedIsSaid : Prop := fnAppendUnsignedIsRow.holds Try.pinned (OpenSpec.ofChange fnAppendUnsignedIsSpec)

/-- ITS FALSE NEIGHBOUR: 'it returns false'. Refute it at one input. -/
def fnAppendUnsignedIsWrong : ChangeSpec := { name := "fnAppendUnsignedIs", fn := fun _ => fun
  | [d1, d2] => { results := [.lit (.bool false)], args := [d1, d2] }
  | _ => none }
def FnAppendUnsignedIsWrongFalsely : Prop := fnAppendUnsignedIsRow.holds Try.pinned (OpenSpec.ofChange fnAppendUnsignedIsWrong)

/-- 'laws.FnAppendSignedIs': WHATEVER THE INPUT: true; the input reads as it did. -/
def fnAppendSignedIsSpec : ChangeSpec := { name := "fnAppendSignedIs", fn := fun _ => fun
  | [d1, d2] => { results := [.lit (.bool true)], args := [d1, d2] }
  | _ => none }
def fnAppendSignedIsRow : OpenClaim := { program := "ytkgkdppjopilmaa", sum := "1f8f9ce94fbcf4410df2b6159f4b561ef4da2b1b68527b13dec138542cb660d4", func := "loop.example/pub-g03025/laws.FnAppendSignedIs", spec := "fnAppendSignedIs", apart := false }
def FnAppendSignedIsSaid : Prop := fnAppendSignedIsRow.holds Try.pinned (OpenSpec.ofChange fnAppendSignedIsSpec)

/-- ITS FALSE NEIGHBOUR: 'it returns false'. Refute it at one input. -/
def fnAppendSignedIsWrong : ChangeSpec := { name := "fnAppendSignedIs", fn := fun _ => fun
  | [d1, d2] => { results := [.lit (.bool false)], args := [d1, d2] }
  | _ => none }
def FnAppendSignedIsWrongFalsely : Prop := fnAppendSignedIsRow.holds Try.pinned (OpenSpec.ofChange fnAppendSignedIsWrong)

/-- 'laws.FnTextIs': WHATEVER THE INPUT: true; the input reads as it did. -/
def fnTextIsSpec : ChangeSpec := { name := "fnTextIs", fn := fun _ => fun
  | [d] => { results := [.lit (.bool true)], args := [d] }
  | _ => none }
def fnTextIsRow : OpenClaim := { program := "ytkgkdppjopilmaa", sum := "1f8f9ce94fbcf4410df2b6159f4b561ef4da2b1b68527b13dec138542cb660d4", func := "loop.example/pub-g03025/laws.FnTextIs", spec := "fnTextIs", inPlace := ["internal/bytealg.IndexByte"], apart := false }
def FnTextIsSaid : Prop := fnTextIsRow.holds Try.pinned (OpenSpec.ofChange fnTextIsSpec)

/-- ITS FALSE NEIGHBOUR: 'it returns false'. Refute it at one input. -/
def fnTextIsWrong : ChangeSpec := { name := "fnTextIs", fn := fun _ => fun
  | [d] => { results := [.lit (.bool false)], args := [d] }
  | _ => none }
def FnTextIsWrongFalsely : Prop := fnTextIsRow.holds Try.pinned (OpenSpec.ofChange fnTextIsWrong)

/-- 'laws.FnUnsignedIs': WHATEVER THE INPUT: true; the input reads as it did. -/
def fnUnsignedIsSpec : ChangeSpec := { name := "fnUnsignedIs", fn := fun _ => fun
  | [d] => { results := [.lit (.bool true)], args := [d] }
  | _ => none }
def fnUnsignedIsRow : OpenClaim := { program := "ytkgkdppjopilmaa", sum := "1f8f9ce94fbcf4410df2b6159f4b561ef4da2b1b68527b13dec138542cb660d4", func := "loop.example/pub-g03025/laws.FnUnsignedIs", spec := "fnUnsignedIs", apart := false }
def FnUnsignedIsSaid : Prop := fnUnsignedIsRow.holds Try.pinned (OpenSpec.ofChange fnUnsignedIsSpec)

/-- ITS FALSE NEIGHBOUR: 'it returns false'. Refute it at one input. -/
def fnUnsignedIsWrong : ChangeSpec := { name := "fnUnsignedIs", fn := fun _ => fun
  | [d] => { results := [.lit (.bool false)], args := [d] }
  | _ => none }
def FnUnsignedIsWrongFalsely : Prop := fnUnsignedIsRow.holds Try.pinned (OpenSpec.ofChange fnUnsignedIsWrong)

/-- 'laws.FnSignedIs': WHATEVER THE INPUT: true; the input reads as it did. -/
def fnSignedIsSpec : ChangeSpec := { name := "fnSignedIs", fn := fun _ => fun
  | [d] => { results := [.lit (.bool true)], args := [d] }
  | _ => none }
def fnSignedIsRow : OpenClaim := { program := "ytkgkdppjopilmaa", sum := "1f8f9ce94fbcf4410df2b6159f4b561ef4da2b1b68527b13dec138542cb660d4", func := "loop.example/pub-g03025/laws.FnSignedIs", spec := "fnSignedIs", apart := false }
def FnSignedIsSaid : Prop := fnSignedIsRow.holds Try.pinned (OpenSpec.ofChange fnSignedIsSpec)

/-- ITS FALSE NEIGHBOUR: 'it returns false'. Refute it at one input. -/
def fnSignedIsWrong : ChangeSpec := { name := "fnSignedIs", fn := fun _ => fun
  | [d] => { results := [.lit (.bool false)], args := [d] }
  | _ => none }
def FnSignedIsWrongFalsely : Prop := fnSignedIsRow.holds Try.pinned (OpenSpec.ofChange fnSignedIsWrong)

/-- 'laws.FnUnsignedBack': WHATEVER THE INPUT: true; the input reads as it did. -/
def fnUnsignedBackSpec : ChangeSpec := { name := "fnUnsignedBack", fn := fun _ => fun
  | [d1, d2] => { results := [.lit (.bool true)], args := [d1, d2] }
  | _ => none }
def fnUnsignedBackRow : OpenClaim := { program := "ytkgkdppjopilmaa", sum := "1f8f9ce94fbcf4410df2b6159f4b561ef4da2b1b68527b13dec138542cb660d4", func := "loop.example/pub-g03025/laws.FnUnsignedBack", spec := "fnUnsignedBack", apart := false }
def FnUnsignedBackSaid : Prop := fnUnsignedBackRow.holds Try.pinned (OpenSpec.ofChange fnUnsignedBackSpec)

/-- ITS FALSE NEIGHBOUR: 'it returns false'. Refute it at one input. -/
def fnUnsignedBackWrong : ChangeSpec := { name := "fnUnsignedBack", fn := fun _ => fun
  | [d1, d2] => { results := [.lit (.bool false)], args := [d1, d2] }
  | _ => none }
def FnUnsignedBackWrongFalsely : Prop := fnUnsignedBackRow.holds Try.pinned (OpenSpec.ofChange fnUnsignedBackWrong)

/-- 'laws.FnUnsignedForth': WHATEVER THE INPUT: true; the input reads as it did. -/
def fnUnsignedForthSpec : ChangeSpec := { name := "fnUnsignedForth", fn := fun _ => fun
  | [d] => { results := [.lit (.bool true)], args := [d] }
  | _ => none }
def fnUnsignedForthRow : OpenClaim := { program := "ytkgkdppjopilmaa", sum := "1f8f9ce94fbcf4410df2b6159f4b561ef4da2b1b68527b13dec138542cb660d4", func := "loop.example/pub-g03025/laws.FnUnsignedForth", spec := "fnUnsignedForth", apart := false }
def FnUnsignedForthSaid : Prop := fnUnsignedForthRow.holds Try.pinned (OpenSpec.ofChange fnUnsignedForthSpec)

/-- ITS FALSE NEIGHBOUR: 'it returns false'. Refute it at one input. -/
def fnUnsignedForthWrong : ChangeSpec := { name := "fnUnsignedForth", fn := fun _ => fun
  | [d] => { results := [.lit (.bool false)], args := [d] }
  | _ => none }
def FnUnsignedForthWrongFalsely : Prop := fnUnsignedForthRow.holds Try.pinned (OpenSpec.ofChange fnUnsignedForthWrong)

/-- 'laws.FnPadded': WHATEVER THE INPUT: true; the input reads as it did. -/
def fnPaddedSpec : ChangeSpec := { name := "fnPadded", fn := fun _ => fun
  | [d1, d2] => { results := [.lit (.bool true)], args := [d1, d2] }
  | _ => none }
def fnPaddedRow : OpenClaim := { program := "ytkgkdppjopilmaa", sum := "1f8f9ce94fbcf4410df2b6159f4b561ef4da2b1b68527b13dec138542cb660d4", func := "loop.example/pub-g03025/laws.FnPadded", spec := "fnPadded", apart := false }
def FnPaddedSaid : Prop := fnPaddedRow.holds Try.pinned (OpenSpec.ofChange fnPaddedSpec)

/-- ITS FALSE NEIGHBOUR: 'it returns false'. Refute it at one input. -/
def fnPaddedWrong : ChangeSpec := { name := "fnPadded", fn := fun _ => fun
  | [d1, d2] => { results := [.lit (.bool false)], args := [d1, d2] }
  | _ => none }
def FnPaddedWrongFalsely : Prop := fnPaddedRow.holds Try.pinned (OpenSpec.ofChange fnPaddedWrong)

/-- 'laws.FnSignedBack': WHATEVER THE INPUT: true; the input reads as it did. -/
def fnSignedBackSpec : ChangeSpec := { name := "fnSignedBack", fn := fun _ => fun
  | [d1, d2] => { results := [.lit (.bool true)], args := [d1, d2] }
  | _ => none }
def fnSignedBackRow : OpenClaim := { program := "ytkgkdppjopilmaa", sum := "1f8f9ce94fbcf4410df2b6159f4b561ef4da2b1b68527b13dec138542cb660d4", func := "loop.example/pub-g03025/laws.FnSignedBack", spec := "fnSignedBack", apart := false }
def FnSignedBackSaid : Prop := fnSignedBackRow.holds Try.pinned (OpenSpec.ofChange fnSignedBackSpec)

/-- ITS FALSE NEIGHBOUR: 'it returns false'. Refute it at one input. -/
def fnSignedBackWrong : ChangeSpec := { name := "fnSignedBack", fn := fun _ => fun
  | [d1, d2] => { results := [.lit (.bool false)], args := [d1, d2] }
  | _ => none }
def FnSignedBackWrongFalsely : Prop := fnSignedBackRow.holds Try.pinned (OpenSpec.ofChange fnSignedBackWrong)

/-- 'laws.FnUnitLengthIs': WHATEVER THE INPUT: true; the input reads as it did. -/
def fnUnitLengthIsSpec : ChangeSpec := { name := "fnUnitLengthIs", fn := fun _ => fun
  | [d1, d2, d3, d4] => { results := [.lit (.bool true)], args := [d1, d2, d3, d4] }
  | _ => none }
def fnUnitLengthIsRow : OpenClaim := { program := "ytkgkdppjopilmaa", sum := "1f8f9ce94fbcf4410df2b6159f4b561ef4da2b1b68527b13dec138542cb660d4", func := "loop.example/pub-g03025/laws.FnUnitLengthIs", spec := "fnUnitLengthIs", apart := false }
def FnUnitLengthIsSaid : Prop := fnUnitLengthIsRow.holds Try.pinned (OpenSpec.ofChange fnUnitLengthIsSpec)

/-- ITS FALSE NEIGHBOUR: 'it returns false'. Refute it at one input. -/
def fnUnitLengthIsWrong : ChangeSpec := { name := "fnUnitLengthIs", fn := fun _ => fun
  | [d1, d2, d3, d4] => { results := [.lit (.bool false)], args := [d1, d2, d3, d4] }
  | _ => none }
def FnUnitLengthIsWrongFalsely : Prop := fnUnitLengthIsRow.holds Try.pinned (OpenSpec.ofChange fnUnitLengthIsWrong)

/-- 'laws.FnUnitLengthShort': WHATEVER THE INPUT: true; the input reads as it did. -/
def fnUnitLengthShortSpec : ChangeSpec := { name := "fnUnitLengthShort", fn := fun _ => fun
  | [d1, d2, d3] => { results := [.lit (.bool true)], args := [d1, d2, d3] }
  | _ => none }
def fnUnitLengthShortRow : OpenClaim := { program := "ytkgkdppjopilmaa", sum := "1f8f9ce94fbcf4410df2b6159f4b561ef4da2b1b68527b13dec138542cb660d4", func := "loop.example/pub-g03025/laws.FnUnitLengthShort", spec := "fnUnitLengthShort", apart := false }
def FnUnitLengthShortSaid : Prop := fnUnitLengthShortRow.holds Try.pinned (OpenSpec.ofChange fnUnitLengthShortSpec)

/-- ITS FALSE NEIGHBOUR: 'it returns false'. Refute it at one input. -/
def fnUnitLengthShortWrong : ChangeSpec := { name := "fnUnitLengthShort", fn := fun _ => fun
  | [d1, d2, d3] => { results := [.lit (.bool false)], args := [d1, d2, d3] }
  | _ => none }
def FnUnitLengthShortWrongFalsely : Prop := fnUnitLengthShortRow.holds Try.pinned (OpenSpec.ofChange fnUnitLengthShortWrong)

/- THE SECOND FORM. 'bulk': how many values and letters a reading holds, each counted each time it is reached (what is shared counts as often as it is met; a slice's spare places count too). A statement '..UptoSaid' is the law's where the arguments, and the package variables that the reading takes, are together of bulk at most 1048576: NARROWER than '..Said'. Prove '..Said' where nothing that the law and all that it calls make is longer than what came in: it says more and counts as full. Else prove '..UptoSaid'. A law counts once. -/
mutual
def uptoBulk {H : Type} : DataW H → Nat
  | .lit (.string bytes) => bytes.length + 1
  | .lit _ => 1
  | .nil => 1
  | .ptr d => uptoBulk d + 1
  | .slice elems spare => uptoBulkAll elems + uptoBulkAll spare + 1
  | .agg parts => uptoBulkAll parts + 1
  | .iface _ d => uptoBulk d + 1
  | .map entries => uptoBulkEntries entries + 1
  | .held _ => 1
def uptoBulkAll {H : Type} : List (DataW H) → Nat
  | [] => 0
  | d :: r => uptoBulk d + uptoBulkAll r
def uptoBulkEntries {H : Type} : List (Lit × DataW H) → Nat
  | [] => 0
  | x :: r => uptoBulkEntry x + uptoBulkEntries r
def uptoBulkEntry {H : Type} : Lit × DataW H → Nat
  | (.string bytes, d) => bytes.length + uptoBulk d + 1
  | (_, d) => uptoBulk d + 1
 end
def uptoSmall : (H : Type) → List (DataW H) → Bool := fun _ ds => decide (uptoBulkAll ds ≤ 1048576)
def OpenSpec.upto (s : _root_.Go.ChangeSpec) : _root_.Go.OpenSpec := { _root_.Go.OpenSpec.ofChange s with cond := some uptoSmall }

/-- 'laws.FnAppendUnsignedIs', WHERE WHAT IT READS IS OF BULK AT MOST 1048576: true; the input reads as it did. -/
def fnAppendUnsignedIsUptoRow : OpenClaim := { program := "ytkgkdppjopilmaa", sum := "1f8f9ce94fbcf4410df2b6159f4b561ef4da2b1b68527b13dec138542cb660d4", func := "loop.example/pub-g03025/laws.FnAppendUnsignedIs", spec := "fnAppendUnsignedIs", apart := false, narrowed := true }
def FnAppendUnsignedIsUptoSaid : Prop := fnAppendUnsignedIsUptoRow.holds Try.pinned (OpenSpec.upto fnAppendUnsignedIsSpec)

/-- 'laws.FnAppendSignedIs', WHERE WHAT IT READS IS OF BULK AT MOST 1048576: true; the input reads as it did. -/
def fnAppendSignedIsUptoRow : OpenClaim := { program := "ytkgkdppjopilmaa", sum := "1f8f9ce94fbcf4410df2b6159f4b561ef4da2b1b68527b13dec138542cb660d4", func := "loop.example/pub-g03025/laws.FnAppendSignedIs", spec := "fnAppendSignedIs", apart := false, narrowed := true }
def FnAppendSignedIsUptoSaid : Prop := fnAppendSignedIsUptoRow.holds Try.pinned (OpenSpec.upto fnAppendSignedIsSpec)

/-- 'laws.FnTextIs', WHERE WHAT IT READS IS OF BULK AT MOST 1048576: true; the input reads as it did. -/
def fnTextIsUptoRow : OpenClaim := { program := "ytkgkdppjopilmaa", sum := "1f8f9ce94fbcf4410df2b6159f4b561ef4da2b1b68527b13dec138542cb660d4", func := "loop.example/pub-g03025/laws.FnTextIs", spec := "fnTextIs", inPlace := ["internal/bytealg.IndexByte"], apart := false, narrowed := true }
def FnTextIsUptoSaid : Prop := fnTextIsUptoRow.holds Try.pinned (OpenSpec.upto fnTextIsSpec)

/-- 'laws.FnUnsignedIs', WHERE WHAT IT READS IS OF BULK AT MOST 1048576: true; the input reads as it did. -/
def fnUnsignedIsUptoRow : OpenClaim := { program := "ytkgkdppjopilmaa", sum := "1f8f9ce94fbcf4410df2b6159f4b561ef4da2b1b68527b13dec138542cb660d4", func := "loop.example/pub-g03025/laws.FnUnsignedIs", spec := "fnUnsignedIs", apart := false, narrowed := true }
def FnUnsignedIsUptoSaid : Prop := fnUnsignedIsUptoRow.holds Try.pinned (OpenSpec.upto fnUnsignedIsSpec)

/-- 'laws.FnSignedIs', WHERE WHAT IT READS IS OF BULK AT MOST 1048576: true; the input reads as it did. -/
def fnSignedIsUptoRow : OpenClaim := { program := "ytkgkdppjopilmaa", sum := "1f8f9ce94fbcf4410df2b6159f4b561ef4da2b1b68527b13dec138542cb660d4", func := "loop.example/pub-g03025/laws.FnSignedIs", spec := "fnSignedIs", apart := false, narrowed := true }
def FnSignedIsUptoSaid : Prop := fnSignedIsUptoRow.holds Try.pinned (OpenSpec.upto fnSignedIsSpec)

/-- 'laws.FnUnsignedBack', WHERE WHAT IT READS IS OF BULK AT MOST 1048576: true; the input reads as it did. -/
def fnUnsignedBackUptoRow : OpenClaim := { program := "ytkgkdppjopilmaa", sum := "1f8f9ce94fbcf4410df2b6159f4b561ef4da2b1b68527b13dec138542cb660d4", func := "loop.example/pub-g03025/laws.FnUnsignedBack", spec := "fnUnsignedBack", apart := false, narrowed := true }
def FnUnsignedBackUptoSaid : Prop := fnUnsignedBackUptoRow.holds Try.pinned (OpenSpec.upto fnUnsignedBackSpec)

/-- 'laws.FnUnsignedForth', WHERE WHAT IT READS IS OF BULK AT MOST 1048576: true; the input reads as it did. -/
def fnUnsignedForthUptoRow : OpenClaim := { program := "ytkgkdppjopilmaa", sum := "1f8f9ce94fbcf4410df2b6159f4b561ef4da2b1b68527b13dec138542cb660d4", func := "loop.example/pub-g03025/laws.FnUnsignedForth", spec := "fnUnsignedForth", apart := false, narrowed := true }
def FnUnsignedForthUptoSaid : Prop := fnUnsignedForthUptoRow.holds Try.pinned (OpenSpec.upto fnUnsignedForthSpec)

/-- 'laws.FnPadded', WHERE WHAT IT READS IS OF BULK AT MOST 1048576: true; the input reads as it did. -/
def fnPaddedUptoRow : OpenClaim := { program := "ytkgkdppjopilmaa", sum := "1f8f9ce94fbcf4410df2b6159f4b561ef4da2b1b68527b13dec138542cb660d4", func := "loop.example/pub-g03025/laws.FnPadded", spec := "fnPadded", apart := false, narrowed := true }
def FnPaddedUptoSaid : Prop := fnPaddedUptoRow.holds Try.pinned (OpenSpec.upto fnPaddedSpec)

/-- 'laws.FnSignedBack', WHERE WHAT IT READS IS OF BULK AT MOST 1048576: true; the input reads as it did. -/
def fnSignedBackUptoRow : OpenClaim := { program := "ytkgkdppjopilmaa", sum := "1f8f9ce94fbcf4410df2b6159f4b561ef4da2b1b68527b13dec138542cb660d4", func := "loop.example/pub-g03025/laws.FnSignedBack", spec := "fnSignedBack", apart := false, narrowed := true }
def FnSignedBackUptoSaid : Prop := fnSignedBackUptoRow.holds Try.pinned (OpenSpec.upto fnSignedBackSpec)

/-- 'laws.FnUnitLengthIs', WHERE WHAT IT READS IS OF BULK AT MOST 1048576: true; the input reads as it did. -/
def fnUnitLengthIsUptoRow : OpenClaim := { program := "ytkgkdppjopilmaa", sum := "1f8f9ce94fbcf4410df2b6159f4b561ef4da2b1b68527b13dec138542cb660d4", func := "loop.example/pub-g03025/laws.FnUnitLengthIs", spec := "fnUnitLengthIs", apart := false, narrowed := true }
def FnUnitLengthIsUptoSaid : Prop := fnUnitLengthIsUptoRow.holds Try.pinned (OpenSpec.upto fnUnitLengthIsSpec)

/-- 'laws.FnUnitLengthShort', WHERE WHAT IT READS IS OF BULK AT MOST 1048576: true; the input reads as it did. -/
def fnUnitLengthShortUptoRow : OpenClaim := { program := "ytkgkdppjopilmaa", sum := "1f8f9ce94fbcf4410df2b6159f4b561ef4da2b1b68527b13dec138542cb660d4", func := "loop.example/pub-g03025/laws.FnUnitLengthShort", spec := "fnUnitLengthShort", apart := false, narrowed := true }
def FnUnitLengthShortUptoSaid : Prop := fnUnitLengthShortUptoRow.holds Try.pinned (OpenSpec.upto fnUnitLengthShortSpec)

end Rows
end Go.Proofs.Ytkgkdppjopilmaa
