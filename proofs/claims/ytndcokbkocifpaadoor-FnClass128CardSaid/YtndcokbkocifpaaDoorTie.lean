/-
  DERIVED. GIVEN WITH THE SEED: THE PROGRAM's TIES (one call each: nine closed facts by the kernel) AND EACH ROW's TIE, after the 31st guide's Derived/Test/Toyas{Tie, Card}.lean. No idea stands in it: it is a product of the set-up. Laid BY PROGRAM, IN A SANDBOX (cutbox-door.mjs). By AI agents, Wed Nov 11 2026. No macro, syntax, notation, axiom, sorry.
-/
import Derived.Test.YtndcokbkocifpaaDoorRows
import Derived.LaidByTextLater
import Derived.SevenTiedAt
import Derived.LaidSub
import Derived.LaidOnce
namespace Go.Proofs.YtndcokbkocifpaaDoor
open Go
set_option maxRecDepth 100000
theorem seatTie1 : Tryd.prog.laidByTextLater [("loop.example/pub-runtimeparts/pub/sizeclasses.SizeClassToSize", Rows.laid_loop_example_pub_runtimeparts_pub_sizeclasses_SizeClassToSize), ("loop.example/pub-runtimeparts/pub/sizeclasses.SizeToSizeClass128", Rows.laid_loop_example_pub_runtimeparts_pub_sizeclasses_SizeToSizeClass128)] [.data, .data] true :=
  Program.laidByTextLater_by_one 34 8 250 (by kernel_rfl) (by kernel_rfl) (by kernel_rfl) (by kernel_rfl) (by kernel_rfl) (by kernel_rfl) (fun _ _ => by kernel_rfl)
theorem seatTie2 : Tryd.prog.laidByTextLater [("loop.example/pub-runtimeparts/pub/sizeclasses.SizeClassToSize", Rows.laid_loop_example_pub_runtimeparts_pub_sizeclasses_SizeClassToSize), ("loop.example/pub-runtimeparts/pub/sizeclasses.SizeClassToNPages", Rows.laid_loop_example_pub_runtimeparts_pub_sizeclasses_SizeClassToNPages), ("loop.example/pub-runtimeparts/pub/sizeclasses.SizeToSizeClass8", Rows.laid_loop_example_pub_runtimeparts_pub_sizeclasses_SizeToSizeClass8)] [.data, .data, .data] true :=
  Program.laidByTextLater_by_one 34 8 250 (by kernel_rfl) (by kernel_rfl) (by kernel_rfl) (by kernel_rfl) (by kernel_rfl) (by kernel_rfl) (fun _ _ => by kernel_rfl)
theorem seatTie3 : Tryd.prog.laidByTextLater [("loop.example/pub-runtimeparts/pub/sizeclasses.SizeClassToSize", Rows.laid_loop_example_pub_runtimeparts_pub_sizeclasses_SizeClassToSize), ("loop.example/pub-runtimeparts/pub/sizeclasses.SizeToSizeClass8", Rows.laid_loop_example_pub_runtimeparts_pub_sizeclasses_SizeToSizeClass8), ("loop.example/pub-runtimeparts/pub/sizeclasses.SizeToSizeClass128", Rows.laid_loop_example_pub_runtimeparts_pub_sizeclasses_SizeToSizeClass128)] [.data, .data, .data] true :=
  Program.laidByTextLater_by_one 34 8 250 (by kernel_rfl) (by kernel_rfl) (by kernel_rfl) (by kernel_rfl) (by kernel_rfl) (by kernel_rfl) (fun _ _ => by kernel_rfl)
theorem seatTie4 : Tryd.prog.laidByTextLater [("loop.example/pub-runtimeparts/pub/sizeclasses.SizeClassToSize", Rows.laid_loop_example_pub_runtimeparts_pub_sizeclasses_SizeClassToSize), ("loop.example/pub-runtimeparts/pub/sizeclasses.SizeClassToNPages", Rows.laid_loop_example_pub_runtimeparts_pub_sizeclasses_SizeClassToNPages), ("loop.example/pub-runtimeparts/pub/sizeclasses.SizeClassToDivMagic", Rows.laid_loop_example_pub_runtimeparts_pub_sizeclasses_SizeClassToDivMagic)] [.data, .data, .data] true :=
  Program.laidByTextLater_by_one 34 8 250 (by kernel_rfl) (by kernel_rfl) (by kernel_rfl) (by kernel_rfl) (by kernel_rfl) (by kernel_rfl) (fun _ _ => by kernel_rfl)
theorem noOwnUnsafe : Tryd.pinned.checked.prog.headLifts.contains "ownunsafe" = false := by kernel_rfl
theorem tie : Tryd.prog.laidByTextLater [("loop.example/pub-runtimeparts/pub/sizeclasses.SizeClassToSize", Rows.laid_loop_example_pub_runtimeparts_pub_sizeclasses_SizeClassToSize)] [.data] true :=
  Program.laidByTextLater.sub seatTie1 ["loop.example/pub-runtimeparts/pub/sizeclasses.SizeClassToSize"] (by kernel_rfl) (by kernel_rfl)
theorem fnSizesAligned_row_tie : Rows.fnSizesAlignedRow.laidByTextAt .later Tryd.pinned [.data] true :=
  OpenClaim.laidByTextAt_later rfl rfl tie noOwnUnsafe
theorem fnSizesAscend_row_tie : Rows.fnSizesAscendRow.laidByTextAt .later Tryd.pinned [.data] true :=
  OpenClaim.laidByTextAt_later rfl rfl tie noOwnUnsafe
theorem tie2 : Tryd.prog.laidByTextLater [("loop.example/pub-runtimeparts/pub/sizeclasses.SizeClassToSize", Rows.laid_loop_example_pub_runtimeparts_pub_sizeclasses_SizeClassToSize), ("loop.example/pub-runtimeparts/pub/sizeclasses.SizeToSizeClass128", Rows.laid_loop_example_pub_runtimeparts_pub_sizeclasses_SizeToSizeClass128)] [.data, .data] true :=
  Program.laidByTextLater.sub seatTie1 ["loop.example/pub-runtimeparts/pub/sizeclasses.SizeClassToSize", "loop.example/pub-runtimeparts/pub/sizeclasses.SizeToSizeClass128"] (by kernel_rfl) (by kernel_rfl)
theorem fnClass128_row_tie : Rows.fnClass128Row.laidByTextAt .later Tryd.pinned [.data, .data] true :=
  OpenClaim.laidByTextAt_later rfl rfl tie2 noOwnUnsafe
theorem tie3 : Tryd.prog.laidByTextLater [("loop.example/pub-runtimeparts/pub/sizeclasses.SizeClassToSize", Rows.laid_loop_example_pub_runtimeparts_pub_sizeclasses_SizeClassToSize), ("loop.example/pub-runtimeparts/pub/sizeclasses.SizeToSizeClass8", Rows.laid_loop_example_pub_runtimeparts_pub_sizeclasses_SizeToSizeClass8)] [.data, .data] true :=
  Program.laidByTextLater.sub seatTie2 ["loop.example/pub-runtimeparts/pub/sizeclasses.SizeClassToSize", "loop.example/pub-runtimeparts/pub/sizeclasses.SizeToSizeClass8"] (by kernel_rfl) (by kernel_rfl)
theorem fnClass8_row_tie : Rows.fnClass8Row.laidByTextAt .later Tryd.pinned [.data, .data] true :=
  OpenClaim.laidByTextAt_later rfl rfl tie3 noOwnUnsafe
theorem tie4 : Tryd.prog.laidByTextLater [("loop.example/pub-runtimeparts/pub/sizeclasses.SizeClassToSize", Rows.laid_loop_example_pub_runtimeparts_pub_sizeclasses_SizeClassToSize), ("loop.example/pub-runtimeparts/pub/sizeclasses.SizeClassToNPages", Rows.laid_loop_example_pub_runtimeparts_pub_sizeclasses_SizeClassToNPages)] [.data, .data] true :=
  Program.laidByTextLater.sub seatTie2 ["loop.example/pub-runtimeparts/pub/sizeclasses.SizeClassToSize", "loop.example/pub-runtimeparts/pub/sizeclasses.SizeClassToNPages"] (by kernel_rfl) (by kernel_rfl)
theorem fnPagesHold_row_tie : Rows.fnPagesHoldRow.laidByTextAt .later Tryd.pinned [.data, .data] true :=
  OpenClaim.laidByTextAt_later rfl rfl tie4 noOwnUnsafe
theorem fnPagesWaste_row_tie : Rows.fnPagesWasteRow.laidByTextAt .later Tryd.pinned [.data, .data] true :=
  OpenClaim.laidByTextAt_later rfl rfl tie4 noOwnUnsafe
theorem tie5 : Tryd.prog.laidByTextLater [("loop.example/pub-runtimeparts/pub/sizeclasses.SizeClassToSize", Rows.laid_loop_example_pub_runtimeparts_pub_sizeclasses_SizeClassToSize), ("loop.example/pub-runtimeparts/pub/sizeclasses.SizeToSizeClass8", Rows.laid_loop_example_pub_runtimeparts_pub_sizeclasses_SizeToSizeClass8), ("loop.example/pub-runtimeparts/pub/sizeclasses.SizeToSizeClass128", Rows.laid_loop_example_pub_runtimeparts_pub_sizeclasses_SizeToSizeClass128)] [.data, .data, .data] true :=
  Program.laidByTextLater.sub seatTie3 ["loop.example/pub-runtimeparts/pub/sizeclasses.SizeClassToSize", "loop.example/pub-runtimeparts/pub/sizeclasses.SizeToSizeClass8", "loop.example/pub-runtimeparts/pub/sizeclasses.SizeToSizeClass128"] (by kernel_rfl) (by kernel_rfl)
theorem fnClassLeast_row_tie : Rows.fnClassLeastRow.laidByTextAt .later Tryd.pinned [.data, .data, .data] true :=
  OpenClaim.laidByTextAt_later rfl rfl tie5 noOwnUnsafe
theorem tie6 : Tryd.prog.laidByTextLater [("loop.example/pub-runtimeparts/pub/sizeclasses.SizeClassToSize", Rows.laid_loop_example_pub_runtimeparts_pub_sizeclasses_SizeClassToSize), ("loop.example/pub-runtimeparts/pub/sizeclasses.SizeClassToNPages", Rows.laid_loop_example_pub_runtimeparts_pub_sizeclasses_SizeClassToNPages), ("loop.example/pub-runtimeparts/pub/sizeclasses.SizeClassToDivMagic", Rows.laid_loop_example_pub_runtimeparts_pub_sizeclasses_SizeClassToDivMagic)] [.data, .data, .data] true :=
  Program.laidByTextLater.sub seatTie4 ["loop.example/pub-runtimeparts/pub/sizeclasses.SizeClassToSize", "loop.example/pub-runtimeparts/pub/sizeclasses.SizeClassToNPages", "loop.example/pub-runtimeparts/pub/sizeclasses.SizeClassToDivMagic"] (by kernel_rfl) (by kernel_rfl)
theorem fnMagic_row_tie : Rows.fnMagicRow.laidByTextAt .later Tryd.pinned [.data, .data, .data] true :=
  OpenClaim.laidByTextAt_later rfl rfl tie6 noOwnUnsafe
theorem fnSizesAlignedUpto_row_tie : Rows.fnSizesAlignedUptoRow.laidByTextAt .later Tryd.pinned [.data] true :=
  OpenClaim.laidByTextAt_later rfl rfl tie noOwnUnsafe
theorem fnSizesAscendUpto_row_tie : Rows.fnSizesAscendUptoRow.laidByTextAt .later Tryd.pinned [.data] true :=
  OpenClaim.laidByTextAt_later rfl rfl tie noOwnUnsafe
theorem fnClass128Upto_row_tie : Rows.fnClass128UptoRow.laidByTextAt .later Tryd.pinned [.data, .data] true :=
  OpenClaim.laidByTextAt_later rfl rfl tie2 noOwnUnsafe
theorem fnClass8Upto_row_tie : Rows.fnClass8UptoRow.laidByTextAt .later Tryd.pinned [.data, .data] true :=
  OpenClaim.laidByTextAt_later rfl rfl tie3 noOwnUnsafe
theorem fnPagesHoldUpto_row_tie : Rows.fnPagesHoldUptoRow.laidByTextAt .later Tryd.pinned [.data, .data] true :=
  OpenClaim.laidByTextAt_later rfl rfl tie4 noOwnUnsafe
theorem fnPagesWasteUpto_row_tie : Rows.fnPagesWasteUptoRow.laidByTextAt .later Tryd.pinned [.data, .data] true :=
  OpenClaim.laidByTextAt_later rfl rfl tie4 noOwnUnsafe
theorem fnClassLeastUpto_row_tie : Rows.fnClassLeastUptoRow.laidByTextAt .later Tryd.pinned [.data, .data, .data] true :=
  OpenClaim.laidByTextAt_later rfl rfl tie5 noOwnUnsafe
theorem fnMagicUpto_row_tie : Rows.fnMagicUptoRow.laidByTextAt .later Tryd.pinned [.data, .data, .data] true :=
  OpenClaim.laidByTextAt_later rfl rfl tie6 noOwnUnsafe
end Go.Proofs.YtndcokbkocifpaaDoor
