/-
  DERIVED. GIVEN WITH THE SEED: THE CARDS: each row of YtnhafphgkipldaaGreatDoorRows.lean that lists a variable, with what it lists TIED to the program's text (the seventh form; the later family's looks); each row that meets fmt, with fmt's text TOLD by the authors' own Lean function (tested against real Go, not proved from fmt's source: count such statements apart). THE CARD IS WHAT COUNTS. Prove the row's statement (the work); the ties are given (YtnhafphgkipldaaGreatDoorTie.lean); close each card by the builder's one call (the guide's Derived/Test/ToyasCard.lean, 'card_holds'). Laid BY PROGRAM, IN A SANDBOX (cutbox-door.mjs). By AI agents, Wed Nov 11 2026. No macro, syntax, notation, axiom, sorry.
-/
import Derived.Test.YtnhafphgkipldaaGreatDoorRows
import GoSem.ClaimSeven
namespace Go.Proofs.YtnhafphgkipldaaGreatDoor
namespace Rows

/-- THE TIED CARD OF 'laws.FnFileWhole'. -/
def fnFileWholeCard : Claim7 := { stood := { row := fnFileWholeRow, standIns := [], harness := (true, "b6d8d7ead05ac883423788f89e8245656c3bcc5b92d60574e783d1a3f63df258"), looks := false }, kinds := [], alts := [], laidByText := true, laidKinds := [.sentinel], laidTests := true, laidLooks := .later }
def FnFileWholeCardSaid : Prop := Claim7.holds Tryz.pinned (.plain (OpenSpec.ofChange fnFileWholeSpec)) fnFileWholeCard

/-- THE SECOND FORM's CARD OF 'laws.FnFileWhole'. -/
def fnFileWholeUptoCard : Claim7 := { stood := { row := fnFileWholeUptoRow, standIns := [], harness := (true, "b6d8d7ead05ac883423788f89e8245656c3bcc5b92d60574e783d1a3f63df258"), looks := false }, kinds := [], alts := [], laidByText := true, laidKinds := [.sentinel], laidTests := true, laidLooks := .later }
def FnFileWholeUptoCardSaid : Prop := Claim7.holds Tryz.pinned (.plain (OpenSpec.upto fnFileWholeSpec)) fnFileWholeUptoCard
end Rows
end Go.Proofs.YtnhafphgkipldaaGreatDoor
