/-
  DERIVED. GIVEN WITH THE SEED: THE PROGRAM's TIES (one call each: nine closed facts by the kernel) AND EACH ROW's TIE, after the 31st guide's Derived/Test/Toyas{Tie, Card}.lean. No idea stands in it: it is a product of the set-up. Laid BY PROGRAM, IN A SANDBOX (cutbox-door.mjs). By AI agents, Wed Nov 11 2026. No macro, syntax, notation, axiom, sorry.
-/
import Derived.Test.YtjlioidknhdceaaDoorRows
import Derived.LaidByTextLater
import Derived.SevenTiedAt
import Derived.LaidSub
import Derived.LaidOnce
namespace Go.Proofs.YtjlioidknhdceaaDoor
open Go
set_option maxRecDepth 100000
theorem seatTie1 : Tryd.prog.laidByTextLater [("pub-gunnysack/pub/bson.errInsufficientVectorData", Rows.laid_pub_gunnysack_pub_bson_errInsufficientVectorData), ("pub-gunnysack/pub/bson.errNonZeroVectorPadding", Rows.laid_pub_gunnysack_pub_bson_errNonZeroVectorPadding), ("pub-gunnysack/pub/bson.errVectorPaddingTooLarge", Rows.laid_pub_gunnysack_pub_bson_errVectorPaddingTooLarge)] [.sentinel, .sentinel, .sentinel] true :=
  Program.laidByTextLater_by_one 66 8 2 (by kernel_rfl) (by kernel_rfl) (by kernel_rfl) (by kernel_rfl) (by kernel_rfl) (by kernel_rfl) (fun _ _ => by kernel_rfl)
theorem noOwnUnsafe : Tryd.pinned.checked.prog.headLifts.contains "ownunsafe" = false := by kernel_rfl
theorem tie : Tryd.prog.laidByTextLater [("pub-gunnysack/pub/bson.errInsufficientVectorData", Rows.laid_pub_gunnysack_pub_bson_errInsufficientVectorData), ("pub-gunnysack/pub/bson.errNonZeroVectorPadding", Rows.laid_pub_gunnysack_pub_bson_errNonZeroVectorPadding), ("pub-gunnysack/pub/bson.errVectorPaddingTooLarge", Rows.laid_pub_gunnysack_pub_bson_errVectorPaddingTooLarge)] [.sentinel, .sentinel, .sentinel] true :=
  Program.laidByTextLater.sub seatTie1 ["pub-gunnysack/pub/bson.errInsufficientVectorData", "pub-gunnysack/pub/bson.errNonZeroVectorPadding", "pub-gunnysack/pub/bson.errVectorPaddingTooLarge"] (by kernel_rfl) (by kernel_rfl)
theorem fnVectorFloats_row_tie : Rows.fnVectorFloatsRow.laidByTextAt .later Tryd.pinned [.sentinel, .sentinel, .sentinel] true :=
  OpenClaim.laidByTextAt_later rfl rfl tie noOwnUnsafe
theorem fnVectorFloatsUpto_row_tie : Rows.fnVectorFloatsUptoRow.laidByTextAt .later Tryd.pinned [.sentinel, .sentinel, .sentinel] true :=
  OpenClaim.laidByTextAt_later rfl rfl tie noOwnUnsafe
end Go.Proofs.YtjlioidknhdceaaDoor
