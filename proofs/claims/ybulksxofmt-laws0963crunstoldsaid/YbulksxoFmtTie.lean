/-
  DERIVED. GIVEN WITH THE SEED: THE PROGRAM's TIES (one call each: nine closed facts by the kernel) AND EACH ROW's TIE, after the 31st guide's Derived/Test/Toyas{Tie, Card}.lean. No idea stands in it: it is a product of the set-up. Laid BY PROGRAM, IN A SANDBOX (cutbox-door.mjs). By AI agents, Wed Nov 11 2026. No macro, syntax, notation, axiom, sorry.
-/
import Derived.Test.YbulksxoFmtRows
import Derived.LaidByTextLater
import Derived.SevenTiedAt
import Derived.LaidSub
import Derived.LaidOnce
namespace Go.Proofs.YbulksxoFmt
open Go
set_option maxRecDepth 100000
theorem seatTie1 : Ybaf.prog.laidByTextLater [("example.com/moovwright/moovwright/internal/mp4.typeCo64", Rows.laid_example_com_moovwright_moovwright_internal_mp4_typeCo64), ("example.com/moovwright/moovwright/internal/mp4.typeCtts", Rows.laid_example_com_moovwright_moovwright_internal_mp4_typeCtts), ("example.com/moovwright/moovwright/internal/mp4.typeStco", Rows.laid_example_com_moovwright_moovwright_internal_mp4_typeStco), ("example.com/moovwright/moovwright/internal/mp4.typeStsc", Rows.laid_example_com_moovwright_moovwright_internal_mp4_typeStsc), ("example.com/moovwright/moovwright/internal/mp4.typeStss", Rows.laid_example_com_moovwright_moovwright_internal_mp4_typeStss), ("example.com/moovwright/moovwright/internal/mp4.typeStsz", Rows.laid_example_com_moovwright_moovwright_internal_mp4_typeStsz), ("example.com/moovwright/moovwright/internal/mp4.typeStts", Rows.laid_example_com_moovwright_moovwright_internal_mp4_typeStts)] [.called, .called, .called, .called, .called, .called, .called] true :=
  Program.laidByTextLater_by_one 163 8 5 (by kernel_rfl) (by kernel_rfl) (by kernel_rfl) (by kernel_rfl) (by kernel_rfl) (by kernel_rfl) (fun _ _ => by kernel_rfl)
theorem noOwnUnsafe : Ybaf.pinned.checked.prog.headLifts.contains "ownunsafe" = false := by kernel_rfl
theorem tie : Ybaf.prog.laidByTextLater [("example.com/moovwright/moovwright/internal/mp4.typeCo64", Rows.laid_example_com_moovwright_moovwright_internal_mp4_typeCo64), ("example.com/moovwright/moovwright/internal/mp4.typeCtts", Rows.laid_example_com_moovwright_moovwright_internal_mp4_typeCtts), ("example.com/moovwright/moovwright/internal/mp4.typeStco", Rows.laid_example_com_moovwright_moovwright_internal_mp4_typeStco), ("example.com/moovwright/moovwright/internal/mp4.typeStsc", Rows.laid_example_com_moovwright_moovwright_internal_mp4_typeStsc), ("example.com/moovwright/moovwright/internal/mp4.typeStss", Rows.laid_example_com_moovwright_moovwright_internal_mp4_typeStss), ("example.com/moovwright/moovwright/internal/mp4.typeStsz", Rows.laid_example_com_moovwright_moovwright_internal_mp4_typeStsz), ("example.com/moovwright/moovwright/internal/mp4.typeStts", Rows.laid_example_com_moovwright_moovwright_internal_mp4_typeStts)] [.called, .called, .called, .called, .called, .called, .called] true :=
  Program.laidByTextLater.sub seatTie1 ["example.com/moovwright/moovwright/internal/mp4.typeCo64", "example.com/moovwright/moovwright/internal/mp4.typeCtts", "example.com/moovwright/moovwright/internal/mp4.typeStco", "example.com/moovwright/moovwright/internal/mp4.typeStsc", "example.com/moovwright/moovwright/internal/mp4.typeStss", "example.com/moovwright/moovwright/internal/mp4.typeStsz", "example.com/moovwright/moovwright/internal/mp4.typeStts"] (by kernel_rfl) (by kernel_rfl)
theorem lawS0963CRuns_row_tie : Rows.lawS0963CRunsRow.laidByTextAt .later Ybaf.pinned [.called, .called, .called, .called, .called, .called, .called] true :=
  OpenClaim.laidByTextAt_later rfl rfl tie noOwnUnsafe
end Go.Proofs.YbulksxoFmt
