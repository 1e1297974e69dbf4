/-
  DERIVED. GIVEN WITH THE SEED: THE CARDS: each row of YtnpkihobbcglcaaGreatDoorRows.lean that lists a variable, with what it lists TIED to the program's text (the seventh form; the later family's looks); each row that meets fmt, with fmt's text TOLD by the authors' own Lean function (tested against real Go, not proved from fmt's source: count such statements apart). THE CARD IS WHAT COUNTS. Prove the row's statement (the work); the ties are given (YtnpkihobbcglcaaGreatDoorTie.lean); close each card by the builder's one call (the guide's Derived/Test/ToyasCard.lean, 'card_holds'). Laid BY PROGRAM, IN A SANDBOX (cutbox-door.mjs). By AI agents, Wed Nov 11 2026. No macro, syntax, notation, axiom, sorry.
-/
import Derived.Test.YtnpkihobbcglcaaGreatDoorRows
import GoSem.ClaimSeven
namespace Go.Proofs.YtnpkihobbcglcaaGreatDoor
namespace Rows

/-- THE TIED CARD OF 'laws.FnPXQuick'. -/
def fnPXQuickCard : Claim7 := { stood := { row := fnPXQuickRow, standIns := [], harness := (true, "b407249538c17f5839ae3a4f17ec737902eb35e7a261e65f12bb7823767cc0a9"), looks := true }, kinds := [], alts := [], laidByText := true, laidKinds := [.data, .data, .data, .sentinel, .sentinel], laidTests := true, laidLooks := .later }
def FnPXQuickCardSaid : Prop := Claim7.holds Tryz.pinned (.plain (OpenSpec.ofChange fnPXQuickSpec)) fnPXQuickCard

/-- THE SECOND FORM's CARD OF 'laws.FnPXQuick'. -/
def fnPXQuickUptoCard : Claim7 := { stood := { row := fnPXQuickUptoRow, standIns := [], harness := (true, "b407249538c17f5839ae3a4f17ec737902eb35e7a261e65f12bb7823767cc0a9"), looks := true }, kinds := [], alts := [], laidByText := true, laidKinds := [.data, .data, .data, .sentinel, .sentinel], laidTests := true, laidLooks := .later }
def FnPXQuickUptoCardSaid : Prop := Claim7.holds Tryz.pinned (.plain (OpenSpec.upto fnPXQuickSpec)) fnPXQuickUptoCard
end Rows
end Go.Proofs.YtnpkihobbcglcaaGreatDoor
