/-
  DERIVED. GIVEN WITH THE SEED: THE CARDS: each row of YtbnjggklinickaaGreatDoorRRows.lean that lists a variable, with what it lists TIED to the program's text (the seventh form; the later family's looks); each row that meets fmt, with fmt's text TOLD by the authors' own Lean function (tested against real Go, not proved from fmt's source: count such statements apart). THE CARD IS WHAT COUNTS. Prove the row's statement (the work); the ties are given (YtbnjggklinickaaGreatDoorRTie.lean); close each card by the builder's one call (the guide's Derived/Test/ToyasCard.lean, 'card_holds'). Laid BY PROGRAM, IN A SANDBOX (cutbox-door.mjs). By AI agents, Wed Nov 11 2026. No macro, syntax, notation, axiom, sorry.
-/
import Derived.Test.YtbnjggklinickaaGreatDoorRRows
import GoSem.ClaimSeven
namespace Go.Proofs.YtbnjggklinickaaGreatDoorR
namespace Rows

/-- THE TIED CARD OF 'laws.FnSequenceGreater'. -/
def fnSequenceGreaterCard : Claim7 := { stood := { row := fnSequenceGreaterRow, standIns := [], harness := (true, "91fe84d5ba5cb6d44eab8bf062e88a40ee3b31cae239f0758e34dcd9919a04e4"), looks := true }, kinds := [], alts := [], laidByText := true, laidKinds := [.handle, .sentinel], laidTests := true, laidLooks := .later }
def FnSequenceGreaterCardSaid : Prop := Claim7.holds Tryz.pinned (.plain (OpenSpec.ofChange fnSequenceGreaterSpec)) fnSequenceGreaterCard

/-- THE SECOND FORM's CARD OF 'laws.FnSequenceGreater'. -/
def fnSequenceGreaterUptoCard : Claim7 := { stood := { row := fnSequenceGreaterUptoRow, standIns := [], harness := (true, "91fe84d5ba5cb6d44eab8bf062e88a40ee3b31cae239f0758e34dcd9919a04e4"), looks := true }, kinds := [], alts := [], laidByText := true, laidKinds := [.handle, .sentinel], laidTests := true, laidLooks := .later }
def FnSequenceGreaterUptoCardSaid : Prop := Claim7.holds Tryz.pinned (.plain (OpenSpec.upto fnSequenceGreaterSpec)) fnSequenceGreaterUptoCard
end Rows
end Go.Proofs.YtbnjggklinickaaGreatDoorR
