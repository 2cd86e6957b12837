/-
  DERIVED. GIVEN WITH THE SEED: THE PROGRAM's TIES (one call each: nine closed facts by the kernel) AND EACH ROW's TIE, after the 31st guide's Derived/Test/Toyas{Tie, Card}.lean. No idea stands in it: it is a product of the set-up. Laid BY PROGRAM, IN A SANDBOX (cutbox-door.mjs). By AI agents, Wed Nov 11 2026. No macro, syntax, notation, axiom, sorry.
-/
import Derived.Test.YtmoabfpdlbngeaaGreatDoorRows
import Derived.LaidByTextLater
import Derived.SevenTiedAt
import Derived.LaidSub
import Derived.LaidOnce
namespace Go.Proofs.YtmoabfpdlbngeaaGreatDoor
open Go
set_option maxRecDepth 100000
theorem seatTie1 : Tryz.prog.laidByTextLater [("math/bits.deBruijn32tab", Rows.laid_math_bits_deBruijn32tab), ("math/bits.deBruijn64tab", Rows.laid_math_bits_deBruijn64tab), ("internal/strconv.uint64pow10", Rows.laid_internal_strconv_uint64pow10)] [.data, .data, .data] true :=
  Program.laidByTextLater_by_one 24 8 65 (by kernel_rfl) (by kernel_rfl) (by kernel_rfl) (by kernel_rfl) (by kernel_rfl) (by kernel_rfl) (fun _ _ => by kernel_rfl)
theorem noOwnUnsafe : Tryz.pinned.checked.prog.headLifts.contains "ownunsafe" = false := by kernel_rfl
theorem tie : Tryz.prog.laidByTextLater [("math/bits.deBruijn32tab", Rows.laid_math_bits_deBruijn32tab), ("math/bits.deBruijn64tab", Rows.laid_math_bits_deBruijn64tab), ("internal/strconv.uint64pow10", Rows.laid_internal_strconv_uint64pow10)] [.data, .data, .data] true :=
  Program.laidByTextLater.sub seatTie1 ["math/bits.deBruijn32tab", "math/bits.deBruijn64tab", "internal/strconv.uint64pow10"] (by kernel_rfl) (by kernel_rfl)
theorem fnScriptWhole_row_tie : Rows.fnScriptWholeRow.laidByTextAt .later Tryz.pinned [.data, .data, .data] true :=
  OpenClaim.laidByTextAt_later rfl rfl tie noOwnUnsafe
theorem fnSameWhole_row_tie : Rows.fnSameWholeRow.laidByTextAt .later Tryz.pinned [.data, .data, .data] true :=
  OpenClaim.laidByTextAt_later rfl rfl tie noOwnUnsafe
theorem fnFreeWhole_row_tie : Rows.fnFreeWholeRow.laidByTextAt .later Tryz.pinned [.data, .data, .data] true :=
  OpenClaim.laidByTextAt_later rfl rfl tie noOwnUnsafe
theorem fnAsksWhole_row_tie : Rows.fnAsksWholeRow.laidByTextAt .later Tryz.pinned [.data, .data, .data] true :=
  OpenClaim.laidByTextAt_later rfl rfl tie noOwnUnsafe
theorem fnRangeWhole_row_tie : Rows.fnRangeWholeRow.laidByTextAt .later Tryz.pinned [.data, .data, .data] true :=
  OpenClaim.laidByTextAt_later rfl rfl tie noOwnUnsafe
theorem fnScriptWholeUpto_row_tie : Rows.fnScriptWholeUptoRow.laidByTextAt .later Tryz.pinned [.data, .data, .data] true :=
  OpenClaim.laidByTextAt_later rfl rfl tie noOwnUnsafe
theorem fnSameWholeUpto_row_tie : Rows.fnSameWholeUptoRow.laidByTextAt .later Tryz.pinned [.data, .data, .data] true :=
  OpenClaim.laidByTextAt_later rfl rfl tie noOwnUnsafe
theorem fnFreeWholeUpto_row_tie : Rows.fnFreeWholeUptoRow.laidByTextAt .later Tryz.pinned [.data, .data, .data] true :=
  OpenClaim.laidByTextAt_later rfl rfl tie noOwnUnsafe
theorem fnAsksWholeUpto_row_tie : Rows.fnAsksWholeUptoRow.laidByTextAt .later Tryz.pinned [.data, .data, .data] true :=
  OpenClaim.laidByTextAt_later rfl rfl tie noOwnUnsafe
theorem fnRangeWholeUpto_row_tie : Rows.fnRangeWholeUptoRow.laidByTextAt .later Tryz.pinned [.data, .data, .data] true :=
  OpenClaim.laidByTextAt_later rfl rfl tie noOwnUnsafe
end Go.Proofs.YtmoabfpdlbngeaaGreatDoor
