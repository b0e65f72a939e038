/-
  DERIVED. GIVEN WITH THE SEED: THE PROGRAM's TIES (one call each: nine closed facts by the kernel) AND EACH ROW's TIE, after the 31st guide's Derived/Test/Toyas{Tie, Card}.lean. No idea stands in it: it is a product of the set-up. Laid BY PROGRAM, IN A SANDBOX (cutbox-door.mjs). By AI agents, Wed Nov 11 2026. No macro, syntax, notation, axiom, sorry.
-/
import Derived.Test.YtjcffojiacgocaaGreatDoorRows
import Derived.LaidByTextLater
import Derived.SevenTiedAt
import Derived.LaidSub
import Derived.LaidOnce
namespace Go.Proofs.YtjcffojiacgocaaGreatDoor
open Go
set_option maxRecDepth 100000
theorem seatTie1 : Tryz.prog.laidByTextLater [("math/bits.deBruijn32tab", Rows.laid_math_bits_deBruijn32tab), ("math/bits.deBruijn64tab", Rows.laid_math_bits_deBruijn64tab), ("internal/strconv.uint64pow10", Rows.laid_internal_strconv_uint64pow10), ("errors.errorType", Rows.laid_errors_errorType), ("strconv.ErrRange", Rows.laid_strconv_ErrRange), ("strconv.ErrSyntax", Rows.laid_strconv_ErrSyntax), ("pub-shipwright/pub/composego/template.DefaultPattern", Rows.laid_pub_shipwright_pub_composego_template_DefaultPattern)] [.data, .data, .data, .handle, .sentinel, .sentinel, .data] true :=
  Program.laidByTextLater_by_one 84 8 65 (by kernel_rfl) (by kernel_rfl) (by kernel_rfl) (by kernel_rfl) (by kernel_rfl) (by kernel_rfl) (fun _ _ => by kernel_rfl)
theorem noOwnUnsafe : Tryz.pinned.checked.prog.headLifts.contains "ownunsafe" = false := by kernel_rfl
theorem tie : Tryz.prog.laidByTextLater [("math/bits.deBruijn32tab", Rows.laid_math_bits_deBruijn32tab), ("math/bits.deBruijn64tab", Rows.laid_math_bits_deBruijn64tab), ("internal/strconv.uint64pow10", Rows.laid_internal_strconv_uint64pow10), ("errors.errorType", Rows.laid_errors_errorType), ("strconv.ErrRange", Rows.laid_strconv_ErrRange), ("strconv.ErrSyntax", Rows.laid_strconv_ErrSyntax), ("pub-shipwright/pub/composego/template.DefaultPattern", Rows.laid_pub_shipwright_pub_composego_template_DefaultPattern)] [.data, .data, .data, .handle, .sentinel, .sentinel, .data] true :=
  Program.laidByTextLater.sub seatTie1 ["math/bits.deBruijn32tab", "math/bits.deBruijn64tab", "internal/strconv.uint64pow10", "errors.errorType", "strconv.ErrRange", "strconv.ErrSyntax", "pub-shipwright/pub/composego/template.DefaultPattern"] (by kernel_rfl) (by kernel_rfl)
theorem fnInterpolateEscaped_row_tie : Rows.fnInterpolateEscapedRow.laidByTextAt .later Tryz.pinned [.data, .data, .data, .handle, .sentinel, .sentinel, .data] true :=
  OpenClaim.laidByTextAt_later rfl rfl tie noOwnUnsafe
theorem fnInterpolateParts_row_tie : Rows.fnInterpolatePartsRow.laidByTextAt .later Tryz.pinned [.data, .data, .data, .handle, .sentinel, .sentinel, .data] true :=
  OpenClaim.laidByTextAt_later rfl rfl tie noOwnUnsafe
theorem tie2 : Tryz.prog.laidByTextLater [("errors.errorType", Rows.laid_errors_errorType), ("pub-shipwright/pub/composego/template.DefaultPattern", Rows.laid_pub_shipwright_pub_composego_template_DefaultPattern)] [.handle, .data] true :=
  Program.laidByTextLater.sub seatTie1 ["errors.errorType", "pub-shipwright/pub/composego/template.DefaultPattern"] (by kernel_rfl) (by kernel_rfl)
theorem fnVariables_row_tie : Rows.fnVariablesRow.laidByTextAt .later Tryz.pinned [.handle, .data] true :=
  OpenClaim.laidByTextAt_later rfl rfl tie2 noOwnUnsafe
theorem fnInterpolateEscapedUpto_row_tie : Rows.fnInterpolateEscapedUptoRow.laidByTextAt .later Tryz.pinned [.data, .data, .data, .handle, .sentinel, .sentinel, .data] true :=
  OpenClaim.laidByTextAt_later rfl rfl tie noOwnUnsafe
theorem fnInterpolatePartsUpto_row_tie : Rows.fnInterpolatePartsUptoRow.laidByTextAt .later Tryz.pinned [.data, .data, .data, .handle, .sentinel, .sentinel, .data] true :=
  OpenClaim.laidByTextAt_later rfl rfl tie noOwnUnsafe
theorem fnVariablesUpto_row_tie : Rows.fnVariablesUptoRow.laidByTextAt .later Tryz.pinned [.handle, .data] true :=
  OpenClaim.laidByTextAt_later rfl rfl tie2 noOwnUnsafe
end Go.Proofs.YtjcffojiacgocaaGreatDoor
