/-
  DERIVED. GIVEN WITH THE SEED: THE CARDS: each row of YtgcdcchmdcdflaaDoorRows.lean that lists a variable, with what it lists TIED to the program's text (the seventh form; the later family's looks); each row that meets fmt, with fmt's text TOLD by the authors' own Lean function (tested against real Go, not proved from fmt's source: count such statements apart). THE CARD IS WHAT COUNTS. Prove the row's statement (the work); the ties are given (YtgcdcchmdcdflaaDoorTie.lean); close each card by the builder's one call (the guide's Derived/Test/ToyasCard.lean, 'card_holds'). Laid BY PROGRAM, IN A SANDBOX (cutbox-door.mjs). By AI agents, Wed Nov 11 2026. No macro, syntax, notation, axiom, sorry.
-/
import Derived.Test.YtgcdcchmdcdflaaDoorRows
import GoSem.ClaimSeven
namespace Go.Proofs.YtgcdcchmdcdflaaDoor
namespace Rows

/-- THE TIED CARD OF 'laws.FnStack'. -/
def fnStackCard : Claim7 := { stood := { row := fnStackRow, standIns := [], harness := (true, "2cc6837c07c833c045dae3897716d8e73e76ac9dfc9f8674a7bd5557660b2ad5"), looks := false }, kinds := [], alts := [], laidByText := true, laidKinds := [.data, .data, .data], laidTests := true, laidLooks := .later }
def FnStackCardSaid : Prop := Claim7.holds Tryd.pinned (.plain (OpenSpec.ofChange fnStackSpec)) fnStackCard

/-- THE SECOND FORM's CARD OF 'laws.FnStack'. -/
def fnStackUptoCard : Claim7 := { stood := { row := fnStackUptoRow, standIns := [], harness := (true, "2cc6837c07c833c045dae3897716d8e73e76ac9dfc9f8674a7bd5557660b2ad5"), looks := false }, kinds := [], alts := [], laidByText := true, laidKinds := [.data, .data, .data], laidTests := true, laidLooks := .later }
def FnStackUptoCardSaid : Prop := Claim7.holds Tryd.pinned (.plain (OpenSpec.upto fnStackSpec)) fnStackUptoCard
end Rows
end Go.Proofs.YtgcdcchmdcdflaaDoor
