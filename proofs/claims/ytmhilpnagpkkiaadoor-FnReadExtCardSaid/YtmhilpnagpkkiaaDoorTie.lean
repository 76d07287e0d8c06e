/-
  DERIVED. GIVEN WITH THE SEED: THE PROGRAM's TIES (one call each: nine closed facts by the kernel) AND EACH ROW's TIE, after the 31st guide's Derived/Test/Toyas{Tie, Card}.lean. No idea stands in it: it is a product of the set-up. Laid BY PROGRAM, IN A SANDBOX (cutbox-door.mjs). By AI agents, Wed Nov 11 2026. No macro, syntax, notation, axiom, sorry.
-/
import Derived.Test.YtmhilpnagpkkiaaDoorRows
import Derived.LaidByTextLater
import Derived.SevenTiedAt
import Derived.LaidSub
import Derived.LaidOnce
namespace Go.Proofs.YtmhilpnagpkkiaaDoor
open Go
set_option maxRecDepth 100000
theorem seatTie1 : Tryd.prog.laidByTextLater [("loop.example/pub-g03057/pub/msgp.ErrShortBytes", Rows.laid_loop_example_pub_g03057_pub_msgp_ErrShortBytes), ("loop.example/pub-g03057/pub/msgp.ErrRecursion", Rows.laid_loop_example_pub_g03057_pub_msgp_ErrRecursion), ("loop.example/pub-g03057/pub/msgp.fatal", Rows.laid_loop_example_pub_g03057_pub_msgp_fatal)] [.wider, .wider, .wider] true :=
  Program.laidByTextLater_by_one 27 8 2 (by kernel_rfl) (by kernel_rfl) (by kernel_rfl) (by kernel_rfl) (by kernel_rfl) (by kernel_rfl) (fun _ _ => by kernel_rfl)
theorem noOwnUnsafe : Tryd.pinned.checked.prog.headLifts.contains "ownunsafe" = false := by kernel_rfl
theorem tie : Tryd.prog.laidByTextLater [("loop.example/pub-g03057/pub/msgp.ErrShortBytes", Rows.laid_loop_example_pub_g03057_pub_msgp_ErrShortBytes), ("loop.example/pub-g03057/pub/msgp.ErrRecursion", Rows.laid_loop_example_pub_g03057_pub_msgp_ErrRecursion)] [.wider, .wider] true :=
  Program.laidByTextLater.sub seatTie1 ["loop.example/pub-g03057/pub/msgp.ErrShortBytes", "loop.example/pub-g03057/pub/msgp.ErrRecursion"] (by kernel_rfl) (by kernel_rfl)
theorem fnReadSmall_row_tie : Rows.fnReadSmallRow.laidByTextAt .later Tryd.pinned [.wider, .wider] true :=
  OpenClaim.laidByTextAt_later rfl rfl tie noOwnUnsafe
theorem fnReadText_row_tie : Rows.fnReadTextRow.laidByTextAt .later Tryd.pinned [.wider, .wider] true :=
  OpenClaim.laidByTextAt_later rfl rfl tie noOwnUnsafe
theorem fnReadBin_row_tie : Rows.fnReadBinRow.laidByTextAt .later Tryd.pinned [.wider, .wider] true :=
  OpenClaim.laidByTextAt_later rfl rfl tie noOwnUnsafe
theorem fnReadExt_row_tie : Rows.fnReadExtRow.laidByTextAt .later Tryd.pinned [.wider, .wider] true :=
  OpenClaim.laidByTextAt_later rfl rfl tie noOwnUnsafe
theorem fnReadHeads_row_tie : Rows.fnReadHeadsRow.laidByTextAt .later Tryd.pinned [.wider, .wider] true :=
  OpenClaim.laidByTextAt_later rfl rfl tie noOwnUnsafe
theorem fnReadInt_row_tie : Rows.fnReadIntRow.laidByTextAt .later Tryd.pinned [.wider, .wider] true :=
  OpenClaim.laidByTextAt_later rfl rfl tie noOwnUnsafe
theorem fnReadUint_row_tie : Rows.fnReadUintRow.laidByTextAt .later Tryd.pinned [.wider, .wider] true :=
  OpenClaim.laidByTextAt_later rfl rfl tie noOwnUnsafe
theorem tie2 : Tryd.prog.laidByTextLater [("loop.example/pub-g03057/pub/msgp.ErrShortBytes", Rows.laid_loop_example_pub_g03057_pub_msgp_ErrShortBytes), ("loop.example/pub-g03057/pub/msgp.ErrRecursion", Rows.laid_loop_example_pub_g03057_pub_msgp_ErrRecursion), ("loop.example/pub-g03057/pub/msgp.fatal", Rows.laid_loop_example_pub_g03057_pub_msgp_fatal)] [.wider, .wider, .wider] true :=
  Program.laidByTextLater.sub seatTie1 ["loop.example/pub-g03057/pub/msgp.ErrShortBytes", "loop.example/pub-g03057/pub/msgp.ErrRecursion", "loop.example/pub-g03057/pub/msgp.fatal"] (by kernel_rfl) (by kernel_rfl)
theorem fnSkip_row_tie : Rows.fnSkipRow.laidByTextAt .later Tryd.pinned [.wider, .wider, .wider] true :=
  OpenClaim.laidByTextAt_later rfl rfl tie2 noOwnUnsafe
theorem fnSkipCut_row_tie : Rows.fnSkipCutRow.laidByTextAt .later Tryd.pinned [.wider, .wider, .wider] true :=
  OpenClaim.laidByTextAt_later rfl rfl tie2 noOwnUnsafe
theorem fnReadSmallUpto_row_tie : Rows.fnReadSmallUptoRow.laidByTextAt .later Tryd.pinned [.wider, .wider] true :=
  OpenClaim.laidByTextAt_later rfl rfl tie noOwnUnsafe
theorem fnSkipUpto_row_tie : Rows.fnSkipUptoRow.laidByTextAt .later Tryd.pinned [.wider, .wider, .wider] true :=
  OpenClaim.laidByTextAt_later rfl rfl tie2 noOwnUnsafe
theorem fnSkipCutUpto_row_tie : Rows.fnSkipCutUptoRow.laidByTextAt .later Tryd.pinned [.wider, .wider, .wider] true :=
  OpenClaim.laidByTextAt_later rfl rfl tie2 noOwnUnsafe
theorem fnReadTextUpto_row_tie : Rows.fnReadTextUptoRow.laidByTextAt .later Tryd.pinned [.wider, .wider] true :=
  OpenClaim.laidByTextAt_later rfl rfl tie noOwnUnsafe
theorem fnReadBinUpto_row_tie : Rows.fnReadBinUptoRow.laidByTextAt .later Tryd.pinned [.wider, .wider] true :=
  OpenClaim.laidByTextAt_later rfl rfl tie noOwnUnsafe
theorem fnReadExtUpto_row_tie : Rows.fnReadExtUptoRow.laidByTextAt .later Tryd.pinned [.wider, .wider] true :=
  OpenClaim.laidByTextAt_later rfl rfl tie noOwnUnsafe
theorem fnReadHeadsUpto_row_tie : Rows.fnReadHeadsUptoRow.laidByTextAt .later Tryd.pinned [.wider, .wider] true :=
  OpenClaim.laidByTextAt_later rfl rfl tie noOwnUnsafe
theorem fnReadIntUpto_row_tie : Rows.fnReadIntUptoRow.laidByTextAt .later Tryd.pinned [.wider, .wider] true :=
  OpenClaim.laidByTextAt_later rfl rfl tie noOwnUnsafe
theorem fnReadUintUpto_row_tie : Rows.fnReadUintUptoRow.laidByTextAt .later Tryd.pinned [.wider, .wider] true :=
  OpenClaim.laidByTextAt_later rfl rfl tie noOwnUnsafe
end Go.Proofs.YtmhilpnagpkkiaaDoor
