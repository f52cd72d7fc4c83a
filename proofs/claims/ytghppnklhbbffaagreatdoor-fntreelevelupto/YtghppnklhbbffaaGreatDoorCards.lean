/-
  DERIVED. GIVEN WITH THE SEED: THE CARDS: each row of YtghppnklhbbffaaGreatDoorRows.lean that lists a variable, with what it lists TIED to the program's text (the seventh form; the later family's looks); each row that meets fmt, with fmt's text TOLD by the authors' own Lean function (tested against real Go, not proved from fmt's source: count such statements apart). THE CARD IS WHAT COUNTS. Prove the row's statement (the work); the ties are given (YtghppnklhbbffaaGreatDoorTie.lean); close each card by the builder's one call (the guide's Derived/Test/ToyasCard.lean, 'card_holds'). Laid BY PROGRAM, IN A SANDBOX (cutbox-door.mjs). By AI agents, Wed Nov 11 2026. No macro, syntax, notation, axiom, sorry.
-/
import Derived.Test.YtghppnklhbbffaaGreatDoorRows
import GoSem.ClaimSeven
namespace Go.Proofs.YtghppnklhbbffaaGreatDoor
namespace Rows

/-- THE TIED CARD OF 'laws.FnTreeLevel'. -/
def fnTreeLevelCard : Claim7 := { stood := { row := fnTreeLevelRow, standIns := [], harness := (true, "f7f4dbac2106447978ac50c5f7aff7100411594aee523560af6d838619abcc01"), looks := true }, kinds := [], alts := [], laidByText := true, laidKinds := [.sentinel], laidTests := true, laidLooks := .later }
def FnTreeLevelCardSaid : Prop := Claim7.holds Tryz.pinned (.plain (OpenSpec.ofChange fnTreeLevelSpec)) fnTreeLevelCard

/-- THE SECOND FORM's CARD OF 'laws.FnTreeLevel'. -/
def fnTreeLevelUptoCard : Claim7 := { stood := { row := fnTreeLevelUptoRow, standIns := [], harness := (true, "f7f4dbac2106447978ac50c5f7aff7100411594aee523560af6d838619abcc01"), looks := true }, kinds := [], alts := [], laidByText := true, laidKinds := [.sentinel], laidTests := true, laidLooks := .later }
def FnTreeLevelUptoCardSaid : Prop := Claim7.holds Tryz.pinned (.plain (OpenSpec.upto fnTreeLevelSpec)) fnTreeLevelUptoCard
end Rows
end Go.Proofs.YtghppnklhbbffaaGreatDoor
