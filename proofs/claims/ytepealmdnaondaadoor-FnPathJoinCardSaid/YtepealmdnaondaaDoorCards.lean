/-
  DERIVED. GIVEN WITH THE SEED: THE CARDS: each row of YtepealmdnaondaaDoorRows.lean that lists a variable, with what it lists TIED to the program's text (the seventh form; the later family's looks); each row that meets fmt, with fmt's text TOLD by the authors' own Lean function (tested against real Go, not proved from fmt's source: count such statements apart). THE CARD IS WHAT COUNTS. Prove the row's statement (the work); the ties are given (YtepealmdnaondaaDoorTie.lean); close each card by the builder's one call (the guide's Derived/Test/ToyasCard.lean, 'card_holds'). Laid BY PROGRAM, IN A SANDBOX (cutbox-door.mjs). By AI agents, Wed Nov 11 2026. No macro, syntax, notation, axiom, sorry.
-/
import Derived.Test.YtepealmdnaondaaDoorRows
import GoSem.ClaimSeven
namespace Go.Proofs.YtepealmdnaondaaDoor
namespace Rows

/-- THE TIED CARD OF 'laws.FnPathJoin'. -/
def fnPathJoinCard : Claim7 := { stood := { row := fnPathJoinRow, standIns := [], harness := (true, "7b9417f383b4d473d9a2caa20f803d267c29fdfb849a1a8b9591f7b59027b6e2"), looks := false }, kinds := [], alts := [], laidByText := true, laidKinds := [.data, .data, .data, .pinned, .pinned], laidTests := true, laidLooks := .later }
def FnPathJoinCardSaid : Prop := Claim7.holds Tryd.pinned (.plain (OpenSpec.ofChange fnPathJoinSpec)) fnPathJoinCard

/-- THE SECOND FORM's CARD OF 'laws.FnPathJoin'. -/
def fnPathJoinUptoCard : Claim7 := { stood := { row := fnPathJoinUptoRow, standIns := [], harness := (true, "7b9417f383b4d473d9a2caa20f803d267c29fdfb849a1a8b9591f7b59027b6e2"), looks := false }, kinds := [], alts := [], laidByText := true, laidKinds := [.data, .data, .data, .pinned, .pinned], laidTests := true, laidLooks := .later }
def FnPathJoinUptoCardSaid : Prop := Claim7.holds Tryd.pinned (.plain (OpenSpec.upto fnPathJoinSpec)) fnPathJoinUptoCard
end Rows
end Go.Proofs.YtepealmdnaondaaDoor
