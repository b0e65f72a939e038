/-
  DERIVED. GIVEN WITH THE SEED: THE PROGRAM's TIES (one call each: nine closed facts by the kernel) AND EACH ROW's TIE, after the 31st guide's Derived/Test/Toyas{Tie, Card}.lean. No idea stands in it: it is a product of the set-up. Laid BY PROGRAM, IN A SANDBOX (cutbox-door.mjs). By AI agents, Wed Nov 11 2026. No macro, syntax, notation, axiom, sorry.
-/
import Derived.Test.YtkhkmhbledigpaaGreatDoorRows
import Derived.LaidByTextLater
import Derived.SevenTiedAt
import Derived.LaidSub
import Derived.LaidOnce
namespace Go.Proofs.YtkhkmhbledigpaaGreatDoor
open Go
set_option maxRecDepth 100000
theorem seatTie1 : Tryz.prog.laidByTextLater [("errors.errorType", Rows.laid_errors_errorType), ("pub-shipwright/pub/composego/template.DefaultPattern", Rows.laid_pub_shipwright_pub_composego_template_DefaultPattern)] [.handle, .data] true :=
  Program.laidByTextLater_by_one 21 8 2 (by kernel_rfl) (by kernel_rfl) (by kernel_rfl) (by kernel_rfl) (by kernel_rfl) (by kernel_rfl) (fun _ _ => by kernel_rfl)
theorem noOwnUnsafe : Tryz.pinned.checked.prog.headLifts.contains "ownunsafe" = false := by kernel_rfl
theorem tie : Tryz.prog.laidByTextLater [("errors.errorType", Rows.laid_errors_errorType), ("pub-shipwright/pub/composego/template.DefaultPattern", Rows.laid_pub_shipwright_pub_composego_template_DefaultPattern)] [.handle, .data] true :=
  Program.laidByTextLater.sub seatTie1 ["errors.errorType", "pub-shipwright/pub/composego/template.DefaultPattern"] (by kernel_rfl) (by kernel_rfl)
theorem fnSubstBlind_row_tie : Rows.fnSubstBlindRow.laidByTextAt .later Tryz.pinned [.handle, .data] true :=
  OpenClaim.laidByTextAt_later rfl rfl tie noOwnUnsafe
theorem fnSubstOwn_row_tie : Rows.fnSubstOwnRow.laidByTextAt .later Tryz.pinned [.handle, .data] true :=
  OpenClaim.laidByTextAt_later rfl rfl tie noOwnUnsafe
theorem fnSubstPlain_row_tie : Rows.fnSubstPlainRow.laidByTextAt .later Tryz.pinned [.handle, .data] true :=
  OpenClaim.laidByTextAt_later rfl rfl tie noOwnUnsafe
theorem fnSubstValue_row_tie : Rows.fnSubstValueRow.laidByTextAt .later Tryz.pinned [.handle, .data] true :=
  OpenClaim.laidByTextAt_later rfl rfl tie noOwnUnsafe
theorem fnSubstWords_row_tie : Rows.fnSubstWordsRow.laidByTextAt .later Tryz.pinned [.handle, .data] true :=
  OpenClaim.laidByTextAt_later rfl rfl tie noOwnUnsafe
theorem fnSubstSigns_row_tie : Rows.fnSubstSignsRow.laidByTextAt .later Tryz.pinned [.handle, .data] true :=
  OpenClaim.laidByTextAt_later rfl rfl tie noOwnUnsafe
theorem fnSubstBlindUpto_row_tie : Rows.fnSubstBlindUptoRow.laidByTextAt .later Tryz.pinned [.handle, .data] true :=
  OpenClaim.laidByTextAt_later rfl rfl tie noOwnUnsafe
theorem fnSubstOwnUpto_row_tie : Rows.fnSubstOwnUptoRow.laidByTextAt .later Tryz.pinned [.handle, .data] true :=
  OpenClaim.laidByTextAt_later rfl rfl tie noOwnUnsafe
theorem fnSubstPlainUpto_row_tie : Rows.fnSubstPlainUptoRow.laidByTextAt .later Tryz.pinned [.handle, .data] true :=
  OpenClaim.laidByTextAt_later rfl rfl tie noOwnUnsafe
theorem fnSubstValueUpto_row_tie : Rows.fnSubstValueUptoRow.laidByTextAt .later Tryz.pinned [.handle, .data] true :=
  OpenClaim.laidByTextAt_later rfl rfl tie noOwnUnsafe
theorem fnSubstWordsUpto_row_tie : Rows.fnSubstWordsUptoRow.laidByTextAt .later Tryz.pinned [.handle, .data] true :=
  OpenClaim.laidByTextAt_later rfl rfl tie noOwnUnsafe
theorem fnSubstSignsUpto_row_tie : Rows.fnSubstSignsUptoRow.laidByTextAt .later Tryz.pinned [.handle, .data] true :=
  OpenClaim.laidByTextAt_later rfl rfl tie noOwnUnsafe
end Go.Proofs.YtkhkmhbledigpaaGreatDoor
