/-
  DERIVED. GIVEN WITH THE SEED: THE CARDS: each row of YtloloifngbmibaaGreatDoorRows.lean that lists a variable, with what it lists TIED to the program's text (the seventh form; the later family's looks); each row that meets fmt, with fmt's text TOLD by the authors' own Lean function (tested against real Go, not proved from fmt's source: count such statements apart). THE CARD IS WHAT COUNTS. Prove the row's statement (the work); the ties are given (YtloloifngbmibaaGreatDoorTie.lean); close each card by the builder's one call (the guide's Derived/Test/ToyasCard.lean, 'card_holds'). Laid BY PROGRAM, IN A SANDBOX (cutbox-door.mjs). By AI agents, Wed Nov 11 2026. No macro, syntax, notation, axiom, sorry.
-/
import Derived.Test.YtloloifngbmibaaGreatDoorRows
import GoSem.ClaimSeven
namespace Go.Proofs.YtloloifngbmibaaGreatDoor
namespace Rows

/-- THE TIED CARD OF 'laws.FnAsInt'. -/
def fnAsIntCard : Claim7 := { stood := { row := fnAsIntRow, standIns := [], harness := (true, "2859321e5683f48d482fd39e624ed77514de153c7d7d9b3970aa8d1a2c32f252"), looks := true }, kinds := [], alts := [], laidByText := true, laidKinds := [.data, .data, .data, .data, .data], laidTests := true, laidLooks := .later }
def FnAsIntCardSaid : Prop := Claim7.holds Tryz.pinned (.plain (OpenSpec.ofChange fnAsIntSpec)) fnAsIntCard

/-- THE TIED CARD OF 'laws.FnFreeze'. -/
def fnFreezeCard : Claim7 := { stood := { row := fnFreezeRow, standIns := [], harness := (true, "2859321e5683f48d482fd39e624ed77514de153c7d7d9b3970aa8d1a2c32f252"), looks := true }, kinds := [], alts := [], laidByText := true, laidKinds := [.data, .data, .data, .data, .data], laidTests := true, laidLooks := .later }
def FnFreezeCardSaid : Prop := Claim7.holds Tryz.pinned (.plain (OpenSpec.ofChange fnFreezeSpec)) fnFreezeCard

/-- THE SECOND FORM's CARD OF 'laws.FnAsInt'. -/
def fnAsIntUptoCard : Claim7 := { stood := { row := fnAsIntUptoRow, standIns := [], harness := (true, "2859321e5683f48d482fd39e624ed77514de153c7d7d9b3970aa8d1a2c32f252"), looks := true }, kinds := [], alts := [], laidByText := true, laidKinds := [.data, .data, .data, .data, .data], laidTests := true, laidLooks := .later }
def FnAsIntUptoCardSaid : Prop := Claim7.holds Tryz.pinned (.plain (OpenSpec.upto fnAsIntSpec)) fnAsIntUptoCard

/-- THE SECOND FORM's CARD OF 'laws.FnFreeze'. -/
def fnFreezeUptoCard : Claim7 := { stood := { row := fnFreezeUptoRow, standIns := [], harness := (true, "2859321e5683f48d482fd39e624ed77514de153c7d7d9b3970aa8d1a2c32f252"), looks := true }, kinds := [], alts := [], laidByText := true, laidKinds := [.data, .data, .data, .data, .data], laidTests := true, laidLooks := .later }
def FnFreezeUptoCardSaid : Prop := Claim7.holds Tryz.pinned (.plain (OpenSpec.upto fnFreezeSpec)) fnFreezeUptoCard
end Rows
end Go.Proofs.YtloloifngbmibaaGreatDoor
