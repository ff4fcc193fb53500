/-
  DERIVED. GIVEN WITH THE SEED: THE PROGRAM's TIES (one call each: nine closed facts by the kernel) AND EACH ROW's TIE, after the 31st guide's Derived/Test/Toyas{Tie, Card}.lean. No idea stands in it: it is a product of the set-up. Laid BY PROGRAM, IN A SANDBOX (cutbox-door.mjs). By AI agents, Wed Nov 11 2026. No macro, syntax, notation, axiom, sorry.
-/
import Derived.Test.Qxb6614292aFmtRows
import Derived.LaidByTextLater
import Derived.SevenTiedAt
import Derived.LaidSub
import Derived.LaidOnce
namespace Go.Proofs.Qxb6614292aFmt
open Go
set_option maxRecDepth 100000
theorem seatTie1 : Tryf.prog.laidByTextLater [("example.com/driftgate/driftgate/internal/replica.ErrUnknownFileAlias", Rows.laid_example_com_driftgate_driftgate_internal_replica_ErrUnknownFileAlias), ("example.com/driftgate/driftgate/internal/replica.fileNames", Rows.laid_example_com_driftgate_driftgate_internal_replica_fileNames)] [.sentinel, .widerDeep] true :=
  Program.laidByTextLater_by_one 33 8 5 (by kernel_rfl) (by kernel_rfl) (by kernel_rfl) (by kernel_rfl) (by kernel_rfl) (by kernel_rfl) (fun _ _ => by kernel_rfl)
theorem noOwnUnsafe : Tryf.pinned.checked.prog.headLifts.contains "ownunsafe" = false := by kernel_rfl
theorem tie : Tryf.prog.laidByTextLater [("example.com/driftgate/driftgate/internal/replica.ErrUnknownFileAlias", Rows.laid_example_com_driftgate_driftgate_internal_replica_ErrUnknownFileAlias), ("example.com/driftgate/driftgate/internal/replica.fileNames", Rows.laid_example_com_driftgate_driftgate_internal_replica_fileNames)] [.sentinel, .widerDeep] true :=
  Program.laidByTextLater.sub seatTie1 ["example.com/driftgate/driftgate/internal/replica.ErrUnknownFileAlias", "example.com/driftgate/driftgate/internal/replica.fileNames"] (by kernel_rfl) (by kernel_rfl)
theorem fnFileStringUnmarshalRoundTrip_row_tie : Rows.fnFileStringUnmarshalRoundTripRow.laidByTextAt .later Tryf.pinned [.sentinel, .widerDeep] true :=
  OpenClaim.laidByTextAt_later rfl rfl tie noOwnUnsafe
theorem fnFileUnmarshalTextAcceptsExactlyTheAliases_row_tie : Rows.fnFileUnmarshalTextAcceptsExactlyTheAliasesRow.laidByTextAt .later Tryf.pinned [.sentinel, .widerDeep] true :=
  OpenClaim.laidByTextAt_later rfl rfl tie noOwnUnsafe
end Go.Proofs.Qxb6614292aFmt
