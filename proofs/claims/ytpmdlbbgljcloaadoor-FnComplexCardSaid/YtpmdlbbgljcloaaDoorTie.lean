/-
  DERIVED. GIVEN WITH THE SEED: THE PROGRAM's TIES (one call each: nine closed facts by the kernel) AND EACH ROW's TIE, after the 31st guide's Derived/Test/Toyas{Tie, Card}.lean. No idea stands in it: it is a product of the set-up. Laid BY PROGRAM, IN A SANDBOX (cutbox-door.mjs). By AI agents, Wed Nov 11 2026. No macro, syntax, notation, axiom, sorry.
-/
import Derived.Test.YtpmdlbbgljcloaaDoorRows
import Derived.LaidByTextLater
import Derived.SevenTiedAt
import Derived.LaidSub
import Derived.LaidOnce
namespace Go.Proofs.YtpmdlbbgljcloaaDoor
open Go
set_option maxRecDepth 100000
theorem seatTie1 : Tryd.prog.laidByTextLater [("loop.example/pub-g03057/pub/msgp.ErrShortBytes", Rows.laid_loop_example_pub_g03057_pub_msgp_ErrShortBytes), ("loop.example/pub-g03057/pub/msgp.ErrRecursion", Rows.laid_loop_example_pub_g03057_pub_msgp_ErrRecursion)] [.wider, .wider] true :=
  Program.laidByTextLater_by_one 21 8 2 (by kernel_rfl) (by kernel_rfl) (by kernel_rfl) (by kernel_rfl) (by kernel_rfl) (by kernel_rfl) (fun _ _ => by kernel_rfl)
theorem noOwnUnsafe : Tryd.pinned.checked.prog.headLifts.contains "ownunsafe" = false := by kernel_rfl
theorem tie : Tryd.prog.laidByTextLater [("loop.example/pub-g03057/pub/msgp.ErrShortBytes", Rows.laid_loop_example_pub_g03057_pub_msgp_ErrShortBytes), ("loop.example/pub-g03057/pub/msgp.ErrRecursion", Rows.laid_loop_example_pub_g03057_pub_msgp_ErrRecursion)] [.wider, .wider] true :=
  Program.laidByTextLater.sub seatTie1 ["loop.example/pub-g03057/pub/msgp.ErrShortBytes", "loop.example/pub-g03057/pub/msgp.ErrRecursion"] (by kernel_rfl) (by kernel_rfl)
theorem fnIntText_row_tie : Rows.fnIntTextRow.laidByTextAt .later Tryd.pinned [.wider, .wider] true :=
  OpenClaim.laidByTextAt_later rfl rfl tie noOwnUnsafe
theorem fnSmall_row_tie : Rows.fnSmallRow.laidByTextAt .later Tryd.pinned [.wider, .wider] true :=
  OpenClaim.laidByTextAt_later rfl rfl tie noOwnUnsafe
theorem fnNumbersMixed_row_tie : Rows.fnNumbersMixedRow.laidByTextAt .later Tryd.pinned [.wider, .wider] true :=
  OpenClaim.laidByTextAt_later rfl rfl tie noOwnUnsafe
theorem fnComplex_row_tie : Rows.fnComplexRow.laidByTextAt .later Tryd.pinned [.wider, .wider] true :=
  OpenClaim.laidByTextAt_later rfl rfl tie noOwnUnsafe
theorem fnFloats_row_tie : Rows.fnFloatsRow.laidByTextAt .later Tryd.pinned [.wider, .wider] true :=
  OpenClaim.laidByTextAt_later rfl rfl tie noOwnUnsafe
theorem fnText_row_tie : Rows.fnTextRow.laidByTextAt .later Tryd.pinned [.wider, .wider] true :=
  OpenClaim.laidByTextAt_later rfl rfl tie noOwnUnsafe
theorem fnBin_row_tie : Rows.fnBinRow.laidByTextAt .later Tryd.pinned [.wider, .wider] true :=
  OpenClaim.laidByTextAt_later rfl rfl tie noOwnUnsafe
theorem fnNumbersBelow_row_tie : Rows.fnNumbersBelowRow.laidByTextAt .later Tryd.pinned [.wider, .wider] true :=
  OpenClaim.laidByTextAt_later rfl rfl tie noOwnUnsafe
theorem fnExt_row_tie : Rows.fnExtRow.laidByTextAt .later Tryd.pinned [.wider, .wider] true :=
  OpenClaim.laidByTextAt_later rfl rfl tie noOwnUnsafe
theorem fnHeads_row_tie : Rows.fnHeadsRow.laidByTextAt .later Tryd.pinned [.wider, .wider] true :=
  OpenClaim.laidByTextAt_later rfl rfl tie noOwnUnsafe
theorem fnUintText_row_tie : Rows.fnUintTextRow.laidByTextAt .later Tryd.pinned [.wider, .wider] true :=
  OpenClaim.laidByTextAt_later rfl rfl tie noOwnUnsafe
theorem fnIntTextUpto_row_tie : Rows.fnIntTextUptoRow.laidByTextAt .later Tryd.pinned [.wider, .wider] true :=
  OpenClaim.laidByTextAt_later rfl rfl tie noOwnUnsafe
theorem fnSmallUpto_row_tie : Rows.fnSmallUptoRow.laidByTextAt .later Tryd.pinned [.wider, .wider] true :=
  OpenClaim.laidByTextAt_later rfl rfl tie noOwnUnsafe
theorem fnNumbersMixedUpto_row_tie : Rows.fnNumbersMixedUptoRow.laidByTextAt .later Tryd.pinned [.wider, .wider] true :=
  OpenClaim.laidByTextAt_later rfl rfl tie noOwnUnsafe
theorem fnComplexUpto_row_tie : Rows.fnComplexUptoRow.laidByTextAt .later Tryd.pinned [.wider, .wider] true :=
  OpenClaim.laidByTextAt_later rfl rfl tie noOwnUnsafe
theorem fnFloatsUpto_row_tie : Rows.fnFloatsUptoRow.laidByTextAt .later Tryd.pinned [.wider, .wider] true :=
  OpenClaim.laidByTextAt_later rfl rfl tie noOwnUnsafe
theorem fnTextUpto_row_tie : Rows.fnTextUptoRow.laidByTextAt .later Tryd.pinned [.wider, .wider] true :=
  OpenClaim.laidByTextAt_later rfl rfl tie noOwnUnsafe
theorem fnBinUpto_row_tie : Rows.fnBinUptoRow.laidByTextAt .later Tryd.pinned [.wider, .wider] true :=
  OpenClaim.laidByTextAt_later rfl rfl tie noOwnUnsafe
theorem fnNumbersBelowUpto_row_tie : Rows.fnNumbersBelowUptoRow.laidByTextAt .later Tryd.pinned [.wider, .wider] true :=
  OpenClaim.laidByTextAt_later rfl rfl tie noOwnUnsafe
theorem fnExtUpto_row_tie : Rows.fnExtUptoRow.laidByTextAt .later Tryd.pinned [.wider, .wider] true :=
  OpenClaim.laidByTextAt_later rfl rfl tie noOwnUnsafe
theorem fnHeadsUpto_row_tie : Rows.fnHeadsUptoRow.laidByTextAt .later Tryd.pinned [.wider, .wider] true :=
  OpenClaim.laidByTextAt_later rfl rfl tie noOwnUnsafe
theorem fnUintTextUpto_row_tie : Rows.fnUintTextUptoRow.laidByTextAt .later Tryd.pinned [.wider, .wider] true :=
  OpenClaim.laidByTextAt_later rfl rfl tie noOwnUnsafe
end Go.Proofs.YtpmdlbbgljcloaaDoor
