/-
  DERIVED. GIVEN WITH THE SEED: THE CARDS: each row of YtmkdpjicgjhhjaaGreatDoorRows.lean that lists a variable, with what it lists TIED to the program's text (the seventh form; the later family's looks); each row that meets fmt, with fmt's text TOLD by the authors' own Lean function (tested against real Go, not proved from fmt's source: count such statements apart). THE CARD IS WHAT COUNTS. Prove the row's statement (the work); the ties are given (YtmkdpjicgjhhjaaGreatDoorTie.lean); close each card by the builder's one call (the guide's Derived/Test/ToyasCard.lean, 'card_holds'). Laid BY PROGRAM, IN A SANDBOX (cutbox-door.mjs). By AI agents, Wed Nov 11 2026. No macro, syntax, notation, axiom, sorry.
-/
import Derived.Test.YtmkdpjicgjhhjaaGreatDoorRows
import GoSem.ClaimSeven
namespace Go.Proofs.YtmkdpjicgjhhjaaGreatDoor
namespace Rows

/-- THE TIED CARD OF 'laws.FnTableComesBack'. -/
def fnTableComesBackCard : Claim7 := { stood := { row := fnTableComesBackRow, standIns := [], harness := (true, "452e450c357f0d10efbc7f4dbe0e286d6a570c9cda750618ca3f307bc3f073c3"), looks := true }, kinds := [], alts := [], laidByText := true, laidKinds := [.sentinel, .sentinel, .wider, .data, .data, .data], laidTests := true, laidLooks := .later }
def FnTableComesBackCardSaid : Prop := Claim7.holds Tryz.pinned (.plain (OpenSpec.ofChange fnTableComesBackSpec)) fnTableComesBackCard

/-- THE SECOND FORM's CARD OF 'laws.FnTableComesBack'. -/
def fnTableComesBackUptoCard : Claim7 := { stood := { row := fnTableComesBackUptoRow, standIns := [], harness := (true, "452e450c357f0d10efbc7f4dbe0e286d6a570c9cda750618ca3f307bc3f073c3"), looks := true }, kinds := [], alts := [], laidByText := true, laidKinds := [.sentinel, .sentinel, .wider, .data, .data, .data], laidTests := true, laidLooks := .later }
def FnTableComesBackUptoCardSaid : Prop := Claim7.holds Tryz.pinned (.plain (OpenSpec.upto fnTableComesBackSpec)) fnTableComesBackUptoCard
end Rows
end Go.Proofs.YtmkdpjicgjhhjaaGreatDoor
