/-
  DERIVED. GIVEN WITH THE SEED: THE CARDS: each row of YtjenhelmpcajfaaGreatDoorRows.lean that lists a variable, with what it lists TIED to the program's text (the seventh form; the later family's looks); each row that meets fmt, with fmt's text TOLD by the authors' own Lean function (tested against real Go, not proved from fmt's source: count such statements apart). THE CARD IS WHAT COUNTS. Prove the row's statement (the work); the ties are given (YtjenhelmpcajfaaGreatDoorTie.lean); close each card by the builder's one call (the guide's Derived/Test/ToyasCard.lean, 'card_holds'). Laid BY PROGRAM, IN A SANDBOX (cutbox-door.mjs). By AI agents, Wed Nov 11 2026. No macro, syntax, notation, axiom, sorry.
-/
import Derived.Test.YtjenhelmpcajfaaGreatDoorRows
import GoSem.ClaimSeven
namespace Go.Proofs.YtjenhelmpcajfaaGreatDoor
namespace Rows

/-- THE TIED CARD OF 'laws.FnLockSatisfies'. -/
def fnLockSatisfiesCard : Claim7 := { stood := { row := fnLockSatisfiesRow, standIns := [], harness := (true, "b1b81aee08aaf2ffdedbb09537d6e6b29f0bfbe80c9226d7a505efeda340c5c3"), looks := true }, kinds := [], alts := [], laidByText := true, laidKinds := [.data, .data, .data, .data, .sentinel, .sentinel, .pinned, .pinned, .pinned, .pinned, .pinned, .pinned], laidTests := true, laidLooks := .later }
def FnLockSatisfiesCardSaid : Prop := Claim7.holds Tryz.pinned (.plain (OpenSpec.ofChange fnLockSatisfiesSpec)) fnLockSatisfiesCard

/-- THE SECOND FORM's CARD OF 'laws.FnLockSatisfies'. -/
def fnLockSatisfiesUptoCard : Claim7 := { stood := { row := fnLockSatisfiesUptoRow, standIns := [], harness := (true, "b1b81aee08aaf2ffdedbb09537d6e6b29f0bfbe80c9226d7a505efeda340c5c3"), looks := true }, kinds := [], alts := [], laidByText := true, laidKinds := [.data, .data, .data, .data, .sentinel, .sentinel, .pinned, .pinned, .pinned, .pinned, .pinned, .pinned], laidTests := true, laidLooks := .later }
def FnLockSatisfiesUptoCardSaid : Prop := Claim7.holds Tryz.pinned (.plain (OpenSpec.upto fnLockSatisfiesSpec)) fnLockSatisfiesUptoCard
end Rows
end Go.Proofs.YtjenhelmpcajfaaGreatDoor
