/-
  DERIVED. GIVEN WITH THE SEED: THE PROGRAM's TIES (one call each: nine closed facts by the kernel) AND EACH ROW's TIE, after the 31st guide's Derived/Test/Toyas{Tie, Card}.lean. No idea stands in it: it is a product of the set-up. Laid BY PROGRAM, IN A SANDBOX (cutbox-door.mjs). By AI agents, Wed Nov 11 2026. No macro, syntax, notation, axiom, sorry.
-/
import Derived.Test.YtghppnklhbbffaaGreatDoorRows
import Derived.LaidByTextLater
import Derived.SevenTiedAt
import Derived.LaidSub
import Derived.LaidOnce
namespace Go.Proofs.YtghppnklhbbffaaGreatDoor
open Go
set_option maxRecDepth 100000
theorem seatTie1 : Tryz.prog.laidByTextLater [("pub-strandline/pub/pebble/inner/manifest.errInvalidL0SublevelsOpt", Rows.laid_pub_strandline_pub_pebble_inner_manifest_errInvalidL0SublevelsOpt)] [.sentinel] true :=
  Program.laidByTextLater_by_one 28 8 2 (by kernel_rfl) (by kernel_rfl) (by kernel_rfl) (by kernel_rfl) (by kernel_rfl) (by kernel_rfl) (fun _ _ => by kernel_rfl)
theorem noOwnUnsafe : Tryz.pinned.checked.prog.headLifts.contains "ownunsafe" = false := by kernel_rfl
theorem tie : Tryz.prog.laidByTextLater [("pub-strandline/pub/pebble/inner/manifest.errInvalidL0SublevelsOpt", Rows.laid_pub_strandline_pub_pebble_inner_manifest_errInvalidL0SublevelsOpt)] [.sentinel] true :=
  Program.laidByTextLater.sub seatTie1 ["pub-strandline/pub/pebble/inner/manifest.errInvalidL0SublevelsOpt"] (by kernel_rfl) (by kernel_rfl)
theorem fnTreeLevel_row_tie : Rows.fnTreeLevelRow.laidByTextAt .later Tryz.pinned [.sentinel] true :=
  OpenClaim.laidByTextAt_later rfl rfl tie noOwnUnsafe
theorem fnTreeLevelUpto_row_tie : Rows.fnTreeLevelUptoRow.laidByTextAt .later Tryz.pinned [.sentinel] true :=
  OpenClaim.laidByTextAt_later rfl rfl tie noOwnUnsafe
end Go.Proofs.YtghppnklhbbffaaGreatDoor
