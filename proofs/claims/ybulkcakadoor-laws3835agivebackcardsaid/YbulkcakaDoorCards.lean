/-
  DERIVED. GIVEN WITH THE SEED: THE CARDS: each row of YbulkcakaDoorRows.lean that lists a variable, with what it lists TIED to the program's text (the seventh form; the later family's looks); each row that meets fmt, with fmt's text TOLD by the authors' own Lean function (tested against real Go, not proved from fmt's source: count such statements apart). THE CARD IS WHAT COUNTS. Prove the row's statement (the work); the ties are given (YbulkcakaDoorTie.lean); close each card by the builder's one call (the guide's Derived/Test/ToyasCard.lean, 'card_holds'). Laid BY PROGRAM, IN A SANDBOX (cutbox-door.mjs). By AI agents, Wed Nov 11 2026. No macro, syntax, notation, axiom, sorry.
-/
import Derived.Test.YbulkcakaDoorRows
import GoSem.ClaimSeven
namespace Go.Proofs.YbulkcakaDoor
namespace Rows

/-- THE TIED CARD OF 'headroom.LawS3835AGiveBack'. -/
def lawS3835AGiveBackCard : Claim7 := { stood := { row := lawS3835AGiveBackRow, standIns := [], harness := (true, "afe67d3955cda2903ac29e1e44f5089d3e1b7ba746b98be61ad0b361703e6c76"), looks := true }, kinds := [], alts := [], laidByText := true, laidKinds := [.data, .data, .data], laidTests := true, laidLooks := .later }
def LawS3835AGiveBackCardSaid : Prop := Claim7.holds Ybad.pinned (.plain (OpenSpec.ofChange lawS3835AGiveBackSpec)) lawS3835AGiveBackCard

/-- THE TIED CARD OF 'headroom.LawS3835ALastWins'. -/
def lawS3835ALastWinsCard : Claim7 := { stood := { row := lawS3835ALastWinsRow, standIns := [], harness := (true, "afe67d3955cda2903ac29e1e44f5089d3e1b7ba746b98be61ad0b361703e6c76"), looks := true }, kinds := [], alts := [], laidByText := true, laidKinds := [.data, .data, .data], laidTests := true, laidLooks := .later }
def LawS3835ALastWinsCardSaid : Prop := Claim7.holds Ybad.pinned (.plain (OpenSpec.ofChange lawS3835ALastWinsSpec)) lawS3835ALastWinsCard

/-- THE TIED CARD OF 'headroom.LawS3835CForgets'. -/
def lawS3835CForgetsCard : Claim7 := { stood := { row := lawS3835CForgetsRow, standIns := [], harness := (true, "afe67d3955cda2903ac29e1e44f5089d3e1b7ba746b98be61ad0b361703e6c76"), looks := true }, kinds := [], alts := [], laidByText := true, laidKinds := [.called, .zero], laidTests := true, laidLooks := .later }
def LawS3835CForgetsCardSaid : Prop := Claim7.holds Ybad.pinned (.plain (OpenSpec.ofChange lawS3835CForgetsSpec)) lawS3835CForgetsCard
end Rows
end Go.Proofs.YbulkcakaDoor
