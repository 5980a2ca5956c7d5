/-
  DERIVED. GIVEN WITH THE SEED: THE PROGRAM's TIES (one call each: nine closed facts by the kernel) AND EACH ROW's TIE, after the 31st guide's Derived/Test/Toyas{Tie, Card}.lean. No idea stands in it: it is a product of the set-up. Laid BY PROGRAM, IN A SANDBOX (cutbox-door.mjs). By AI agents, Wed Nov 11 2026. No macro, syntax, notation, axiom, sorry.
-/
import Derived.Test.YtpebmkbfpeialaaDoorRows
import Derived.LaidByTextLater
import Derived.SevenTiedAt
import Derived.LaidSub
import Derived.LaidOnce
namespace Go.Proofs.YtpebmkbfpeialaaDoor
open Go
set_option maxRecDepth 100000
theorem seatTie1 : Tryd.prog.laidByTextLater [("loop.example/pub-runtimeparts/pub/sizeclasses.SizeClassToSize", Rows.laid_loop_example_pub_runtimeparts_pub_sizeclasses_SizeClassToSize), ("loop.example/pub-runtimeparts/pub/sizeclasses.SizeToSizeClass8", Rows.laid_loop_example_pub_runtimeparts_pub_sizeclasses_SizeToSizeClass8), ("loop.example/pub-runtimeparts/pub/sizeclasses.SizeToSizeClass128", Rows.laid_loop_example_pub_runtimeparts_pub_sizeclasses_SizeToSizeClass128)] [.data, .data, .data] true :=
  Program.laidByTextLater_by_one 24 8 250 (by kernel_rfl) (by kernel_rfl) (by kernel_rfl) (by kernel_rfl) (by kernel_rfl) (by kernel_rfl) (fun _ _ => by kernel_rfl)
theorem noOwnUnsafe : Tryd.pinned.checked.prog.headLifts.contains "ownunsafe" = false := by kernel_rfl
theorem tie : Tryd.prog.laidByTextLater [("loop.example/pub-runtimeparts/pub/sizeclasses.SizeClassToSize", Rows.laid_loop_example_pub_runtimeparts_pub_sizeclasses_SizeClassToSize), ("loop.example/pub-runtimeparts/pub/sizeclasses.SizeToSizeClass8", Rows.laid_loop_example_pub_runtimeparts_pub_sizeclasses_SizeToSizeClass8), ("loop.example/pub-runtimeparts/pub/sizeclasses.SizeToSizeClass128", Rows.laid_loop_example_pub_runtimeparts_pub_sizeclasses_SizeToSizeClass128)] [.data, .data, .data] true :=
  Program.laidByTextLater.sub seatTie1 ["loop.example/pub-runtimeparts/pub/sizeclasses.SizeClassToSize", "loop.example/pub-runtimeparts/pub/sizeclasses.SizeToSizeClass8", "loop.example/pub-runtimeparts/pub/sizeclasses.SizeToSizeClass128"] (by kernel_rfl) (by kernel_rfl)
theorem fnRoundGrow_row_tie : Rows.fnRoundGrowRow.laidByTextAt .later Tryd.pinned [.data, .data, .data] true :=
  OpenClaim.laidByTextAt_later rfl rfl tie noOwnUnsafe
theorem fnRoundOrder_row_tie : Rows.fnRoundOrderRow.laidByTextAt .later Tryd.pinned [.data, .data, .data] true :=
  OpenClaim.laidByTextAt_later rfl rfl tie noOwnUnsafe
theorem fnRoundTwice_row_tie : Rows.fnRoundTwiceRow.laidByTextAt .later Tryd.pinned [.data, .data, .data] true :=
  OpenClaim.laidByTextAt_later rfl rfl tie noOwnUnsafe
theorem fnExactRoundHeader_row_tie : Rows.fnExactRoundHeaderRow.laidByTextAt .later Tryd.pinned [.data, .data, .data] true :=
  OpenClaim.laidByTextAt_later rfl rfl tie noOwnUnsafe
theorem fnExactRoundLarge_row_tie : Rows.fnExactRoundLargeRow.laidByTextAt .later Tryd.pinned [.data, .data, .data] true :=
  OpenClaim.laidByTextAt_later rfl rfl tie noOwnUnsafe
theorem fnExactRoundPlain_row_tie : Rows.fnExactRoundPlainRow.laidByTextAt .later Tryd.pinned [.data, .data, .data] true :=
  OpenClaim.laidByTextAt_later rfl rfl tie noOwnUnsafe
theorem fnExactRoundSmall_row_tie : Rows.fnExactRoundSmallRow.laidByTextAt .later Tryd.pinned [.data, .data, .data] true :=
  OpenClaim.laidByTextAt_later rfl rfl tie noOwnUnsafe
theorem fnRoundGrowUpto_row_tie : Rows.fnRoundGrowUptoRow.laidByTextAt .later Tryd.pinned [.data, .data, .data] true :=
  OpenClaim.laidByTextAt_later rfl rfl tie noOwnUnsafe
theorem fnRoundOrderUpto_row_tie : Rows.fnRoundOrderUptoRow.laidByTextAt .later Tryd.pinned [.data, .data, .data] true :=
  OpenClaim.laidByTextAt_later rfl rfl tie noOwnUnsafe
theorem fnRoundTwiceUpto_row_tie : Rows.fnRoundTwiceUptoRow.laidByTextAt .later Tryd.pinned [.data, .data, .data] true :=
  OpenClaim.laidByTextAt_later rfl rfl tie noOwnUnsafe
theorem fnExactRoundHeaderUpto_row_tie : Rows.fnExactRoundHeaderUptoRow.laidByTextAt .later Tryd.pinned [.data, .data, .data] true :=
  OpenClaim.laidByTextAt_later rfl rfl tie noOwnUnsafe
theorem fnExactRoundLargeUpto_row_tie : Rows.fnExactRoundLargeUptoRow.laidByTextAt .later Tryd.pinned [.data, .data, .data] true :=
  OpenClaim.laidByTextAt_later rfl rfl tie noOwnUnsafe
theorem fnExactRoundPlainUpto_row_tie : Rows.fnExactRoundPlainUptoRow.laidByTextAt .later Tryd.pinned [.data, .data, .data] true :=
  OpenClaim.laidByTextAt_later rfl rfl tie noOwnUnsafe
theorem fnExactRoundSmallUpto_row_tie : Rows.fnExactRoundSmallUptoRow.laidByTextAt .later Tryd.pinned [.data, .data, .data] true :=
  OpenClaim.laidByTextAt_later rfl rfl tie noOwnUnsafe
end Go.Proofs.YtpebmkbfpeialaaDoor
