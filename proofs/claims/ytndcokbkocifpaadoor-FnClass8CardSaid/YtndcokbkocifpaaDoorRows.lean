/-
  NARROWER THAN 'FOR EVERY INPUT', by the rows' own cells (each row's printed sentence says how): FnSizesAligned: laid · FnSizesAscend: laid · FnClass128: laid · FnClass8: laid · FnPagesHold: laid · FnPagesWaste: laid · FnClassLeast: laid · FnMagic: laid.
  DERIVED. THE GIVEN ROWS OF THIS SEAT. 8 by the template 'for every input the law returns true; each argument reads behind the call as it read before'; 0 by the template 'total and deterministic' (their statements: YtndcokbkocifpaaDoorTotals.lean).
  GIVEN WITH THE SEED: the statements are not yours to turn. If you find one false, say at which input.
  Laid BY PROGRAM, IN A SANDBOX (cutbox-rows.mjs): the forced cells as the released guide's own fill.sh prints them over the translation 9aa0b74a7a2ab27b… (all of the seat's roots in one cut). By AI agents, Wed Nov 11 2026. No macro, syntax, notation, axiom, sorry.
-/
import Derived.Test.YtndcokbkocifpaaDoorChecked
import GoSem.Claim
import GoSem.ClaimJoined
import GoSem.ClaimMapViews
import Derived.JoinedTies
import Derived.KernelRfl
namespace Go.Proofs.YtndcokbkocifpaaDoor
/- THE CELL 'sum', in the pinned program and in every row, IS THE sha256 OF THE DUMP (.gsa) THAT YtndcokbkocifpaaDoorProg.lean LOADS. Nothing in Lean hashes anything: it is a label: what it is worth is what the hold of that sum in a sandbox is worth. -/
noncomputable def Tryd.pinned : Pinned := { name := "ytndcokbkocifpaadoor", sum := "9aa0b74a7a2ab27b03045d8f447afb5452322fea9cb2d65179e28a1965276d6c", checked := Tryd.checked }
namespace Rows
def none {H : Type} : Left H := { results := [], args := [] }

/- WHAT THE LISTED PACKAGE-LEVEL VARIABLES READ AS WHEN THE CALL BEGINS. Each datum BY PROGRAM (the guide's laid-datum.mjs) off the statement by which the dump's own 'gosem.cut.vars' lays the variable. In a bare row this is a premise. The card (YtndcokbkocifpaaDoorCards.lean) ties it to the program's text. -/
def laid_loop_example_pub_runtimeparts_pub_sizeclasses_SizeClassToSize {H : Type} : DataW H := .agg [.lit (.int .u16 0), .lit (.int .u16 8), .lit (.int .u16 16), .lit (.int .u16 24), .lit (.int .u16 32), .lit (.int .u16 48), .lit (.int .u16 64), .lit (.int .u16 80), .lit (.int .u16 96), .lit (.int .u16 112), .lit (.int .u16 128), .lit (.int .u16 144), .lit (.int .u16 160), .lit (.int .u16 176), .lit (.int .u16 192), .lit (.int .u16 208), .lit (.int .u16 224), .lit (.int .u16 240), .lit (.int .u16 256), .lit (.int .u16 288), .lit (.int .u16 320), .lit (.int .u16 352), .lit (.int .u16 384), .lit (.int .u16 416), .lit (.int .u16 448), .lit (.int .u16 480), .lit (.int .u16 512), .lit (.int .u16 576), .lit (.int .u16 640), .lit (.int .u16 704), .lit (.int .u16 768), .lit (.int .u16 896), .lit (.int .u16 1024), .lit (.int .u16 1152), .lit (.int .u16 1280), .lit (.int .u16 1408), .lit (.int .u16 1536), .lit (.int .u16 1792), .lit (.int .u16 2048), .lit (.int .u16 2304), .lit (.int .u16 2688), .lit (.int .u16 3072), .lit (.int .u16 3200), .lit (.int .u16 3456), .lit (.int .u16 4096), .lit (.int .u16 4864), .lit (.int .u16 5376), .lit (.int .u16 6144), .lit (.int .u16 6528), .lit (.int .u16 6784), .lit (.int .u16 6912), .lit (.int .u16 8192), .lit (.int .u16 9472), .lit (.int .u16 9728), .lit (.int .u16 10240), .lit (.int .u16 10880), .lit (.int .u16 12288), .lit (.int .u16 13568), .lit (.int .u16 14336), .lit (.int .u16 16384), .lit (.int .u16 18432), .lit (.int .u16 19072), .lit (.int .u16 20480), .lit (.int .u16 21760), .lit (.int .u16 24576), .lit (.int .u16 27264), .lit (.int .u16 28672), .lit (.int .u16 32768)]
def laid_loop_example_pub_runtimeparts_pub_sizeclasses_SizeToSizeClass128 {H : Type} : DataW H := .agg [.lit (.int .u8 32), .lit (.int .u8 33), .lit (.int .u8 34), .lit (.int .u8 35), .lit (.int .u8 36), .lit (.int .u8 37), .lit (.int .u8 37), .lit (.int .u8 38), .lit (.int .u8 38), .lit (.int .u8 39), .lit (.int .u8 39), .lit (.int .u8 40), .lit (.int .u8 40), .lit (.int .u8 40), .lit (.int .u8 41), .lit (.int .u8 41), .lit (.int .u8 41), .lit (.int .u8 42), .lit (.int .u8 43), .lit (.int .u8 43), .lit (.int .u8 44), .lit (.int .u8 44), .lit (.int .u8 44), .lit (.int .u8 44), .lit (.int .u8 44), .lit (.int .u8 45), .lit (.int .u8 45), .lit (.int .u8 45), .lit (.int .u8 45), .lit (.int .u8 45), .lit (.int .u8 45), .lit (.int .u8 46), .lit (.int .u8 46), .lit (.int .u8 46), .lit (.int .u8 46), .lit (.int .u8 47), .lit (.int .u8 47), .lit (.int .u8 47), .lit (.int .u8 47), .lit (.int .u8 47), .lit (.int .u8 47), .lit (.int .u8 48), .lit (.int .u8 48), .lit (.int .u8 48), .lit (.int .u8 49), .lit (.int .u8 49), .lit (.int .u8 50), .lit (.int .u8 51), .lit (.int .u8 51), .lit (.int .u8 51), .lit (.int .u8 51), .lit (.int .u8 51), .lit (.int .u8 51), .lit (.int .u8 51), .lit (.int .u8 51), .lit (.int .u8 51), .lit (.int .u8 51), .lit (.int .u8 52), .lit (.int .u8 52), .lit (.int .u8 52), .lit (.int .u8 52), .lit (.int .u8 52), .lit (.int .u8 52), .lit (.int .u8 52), .lit (.int .u8 52), .lit (.int .u8 52), .lit (.int .u8 52), .lit (.int .u8 53), .lit (.int .u8 53), .lit (.int .u8 54), .lit (.int .u8 54), .lit (.int .u8 54), .lit (.int .u8 54), .lit (.int .u8 55), .lit (.int .u8 55), .lit (.int .u8 55), .lit (.int .u8 55), .lit (.int .u8 55), .lit (.int .u8 56), .lit (.int .u8 56), .lit (.int .u8 56), .lit (.int .u8 56), .lit (.int .u8 56), .lit (.int .u8 56), .lit (.int .u8 56), .lit (.int .u8 56), .lit (.int .u8 56), .lit (.int .u8 56), .lit (.int .u8 56), .lit (.int .u8 57), .lit (.int .u8 57), .lit (.int .u8 57), .lit (.int .u8 57), .lit (.int .u8 57), .lit (.int .u8 57), .lit (.int .u8 57), .lit (.int .u8 57), .lit (.int .u8 57), .lit (.int .u8 57), .lit (.int .u8 58), .lit (.int .u8 58), .lit (.int .u8 58), .lit (.int .u8 58), .lit (.int .u8 58), .lit (.int .u8 58), .lit (.int .u8 59), .lit (.int .u8 59), .lit (.int .u8 59), .lit (.int .u8 59), .lit (.int .u8 59), .lit (.int .u8 59), .lit (.int .u8 59), .lit (.int .u8 59), .lit (.int .u8 59), .lit (.int .u8 59), .lit (.int .u8 59), .lit (.int .u8 59), .lit (.int .u8 59), .lit (.int .u8 59), .lit (.int .u8 59), .lit (.int .u8 59), .lit (.int .u8 60), .lit (.int .u8 60), .lit (.int .u8 60), .lit (.int .u8 60), .lit (.int .u8 60), .lit (.int .u8 60), .lit (.int .u8 60), .lit (.int .u8 60), .lit (.int .u8 60), .lit (.int .u8 60), .lit (.int .u8 60), .lit (.int .u8 60), .lit (.int .u8 60), .lit (.int .u8 60), .lit (.int .u8 60), .lit (.int .u8 60), .lit (.int .u8 61), .lit (.int .u8 61), .lit (.int .u8 61), .lit (.int .u8 61), .lit (.int .u8 61), .lit (.int .u8 62), .lit (.int .u8 62), .lit (.int .u8 62), .lit (.int .u8 62), .lit (.int .u8 62), .lit (.int .u8 62), .lit (.int .u8 62), .lit (.int .u8 62), .lit (.int .u8 62), .lit (.int .u8 62), .lit (.int .u8 62), .lit (.int .u8 63), .lit (.int .u8 63), .lit (.int .u8 63), .lit (.int .u8 63), .lit (.int .u8 63), .lit (.int .u8 63), .lit (.int .u8 63), .lit (.int .u8 63), .lit (.int .u8 63), .lit (.int .u8 63), .lit (.int .u8 64), .lit (.int .u8 64), .lit (.int .u8 64), .lit (.int .u8 64), .lit (.int .u8 64), .lit (.int .u8 64), .lit (.int .u8 64), .lit (.int .u8 64), .lit (.int .u8 64), .lit (.int .u8 64), .lit (.int .u8 64), .lit (.int .u8 64), .lit (.int .u8 64), .lit (.int .u8 64), .lit (.int .u8 64), .lit (.int .u8 64), .lit (.int .u8 64), .lit (.int .u8 64), .lit (.int .u8 64), .lit (.int .u8 64), .lit (.int .u8 64), .lit (.int .u8 64), .lit (.int .u8 65), .lit (.int .u8 65), .lit (.int .u8 65), .lit (.int .u8 65), .lit (.int .u8 65), .lit (.int .u8 65), .lit (.int .u8 65), .lit (.int .u8 65), .lit (.int .u8 65), .lit (.int .u8 65), .lit (.int .u8 65), .lit (.int .u8 65), .lit (.int .u8 65), .lit (.int .u8 65), .lit (.int .u8 65), .lit (.int .u8 65), .lit (.int .u8 65), .lit (.int .u8 65), .lit (.int .u8 65), .lit (.int .u8 65), .lit (.int .u8 65), .lit (.int .u8 66), .lit (.int .u8 66), .lit (.int .u8 66), .lit (.int .u8 66), .lit (.int .u8 66), .lit (.int .u8 66), .lit (.int .u8 66), .lit (.int .u8 66), .lit (.int .u8 66), .lit (.int .u8 66), .lit (.int .u8 66), .lit (.int .u8 67), .lit (.int .u8 67), .lit (.int .u8 67), .lit (.int .u8 67), .lit (.int .u8 67), .lit (.int .u8 67), .lit (.int .u8 67), .lit (.int .u8 67), .lit (.int .u8 67), .lit (.int .u8 67), .lit (.int .u8 67), .lit (.int .u8 67), .lit (.int .u8 67), .lit (.int .u8 67), .lit (.int .u8 67), .lit (.int .u8 67), .lit (.int .u8 67), .lit (.int .u8 67), .lit (.int .u8 67), .lit (.int .u8 67), .lit (.int .u8 67), .lit (.int .u8 67), .lit (.int .u8 67), .lit (.int .u8 67), .lit (.int .u8 67), .lit (.int .u8 67), .lit (.int .u8 67), .lit (.int .u8 67), .lit (.int .u8 67), .lit (.int .u8 67), .lit (.int .u8 67), .lit (.int .u8 67)]
def laid_loop_example_pub_runtimeparts_pub_sizeclasses_SizeToSizeClass8 {H : Type} : DataW H := .agg [.lit (.int .u8 0), .lit (.int .u8 1), .lit (.int .u8 2), .lit (.int .u8 3), .lit (.int .u8 4), .lit (.int .u8 5), .lit (.int .u8 5), .lit (.int .u8 6), .lit (.int .u8 6), .lit (.int .u8 7), .lit (.int .u8 7), .lit (.int .u8 8), .lit (.int .u8 8), .lit (.int .u8 9), .lit (.int .u8 9), .lit (.int .u8 10), .lit (.int .u8 10), .lit (.int .u8 11), .lit (.int .u8 11), .lit (.int .u8 12), .lit (.int .u8 12), .lit (.int .u8 13), .lit (.int .u8 13), .lit (.int .u8 14), .lit (.int .u8 14), .lit (.int .u8 15), .lit (.int .u8 15), .lit (.int .u8 16), .lit (.int .u8 16), .lit (.int .u8 17), .lit (.int .u8 17), .lit (.int .u8 18), .lit (.int .u8 18), .lit (.int .u8 19), .lit (.int .u8 19), .lit (.int .u8 19), .lit (.int .u8 19), .lit (.int .u8 20), .lit (.int .u8 20), .lit (.int .u8 20), .lit (.int .u8 20), .lit (.int .u8 21), .lit (.int .u8 21), .lit (.int .u8 21), .lit (.int .u8 21), .lit (.int .u8 22), .lit (.int .u8 22), .lit (.int .u8 22), .lit (.int .u8 22), .lit (.int .u8 23), .lit (.int .u8 23), .lit (.int .u8 23), .lit (.int .u8 23), .lit (.int .u8 24), .lit (.int .u8 24), .lit (.int .u8 24), .lit (.int .u8 24), .lit (.int .u8 25), .lit (.int .u8 25), .lit (.int .u8 25), .lit (.int .u8 25), .lit (.int .u8 26), .lit (.int .u8 26), .lit (.int .u8 26), .lit (.int .u8 26), .lit (.int .u8 27), .lit (.int .u8 27), .lit (.int .u8 27), .lit (.int .u8 27), .lit (.int .u8 27), .lit (.int .u8 27), .lit (.int .u8 27), .lit (.int .u8 27), .lit (.int .u8 28), .lit (.int .u8 28), .lit (.int .u8 28), .lit (.int .u8 28), .lit (.int .u8 28), .lit (.int .u8 28), .lit (.int .u8 28), .lit (.int .u8 28), .lit (.int .u8 29), .lit (.int .u8 29), .lit (.int .u8 29), .lit (.int .u8 29), .lit (.int .u8 29), .lit (.int .u8 29), .lit (.int .u8 29), .lit (.int .u8 29), .lit (.int .u8 30), .lit (.int .u8 30), .lit (.int .u8 30), .lit (.int .u8 30), .lit (.int .u8 30), .lit (.int .u8 30), .lit (.int .u8 30), .lit (.int .u8 30), .lit (.int .u8 31), .lit (.int .u8 31), .lit (.int .u8 31), .lit (.int .u8 31), .lit (.int .u8 31), .lit (.int .u8 31), .lit (.int .u8 31), .lit (.int .u8 31), .lit (.int .u8 31), .lit (.int .u8 31), .lit (.int .u8 31), .lit (.int .u8 31), .lit (.int .u8 31), .lit (.int .u8 31), .lit (.int .u8 31), .lit (.int .u8 31), .lit (.int .u8 32), .lit (.int .u8 32), .lit (.int .u8 32), .lit (.int .u8 32), .lit (.int .u8 32), .lit (.int .u8 32), .lit (.int .u8 32), .lit (.int .u8 32), .lit (.int .u8 32), .lit (.int .u8 32), .lit (.int .u8 32), .lit (.int .u8 32), .lit (.int .u8 32), .lit (.int .u8 32), .lit (.int .u8 32), .lit (.int .u8 32)]
def laid_loop_example_pub_runtimeparts_pub_sizeclasses_SizeClassToNPages {H : Type} : DataW H := .agg [.lit (.int .u8 0), .lit (.int .u8 1), .lit (.int .u8 1), .lit (.int .u8 1), .lit (.int .u8 1), .lit (.int .u8 1), .lit (.int .u8 1), .lit (.int .u8 1), .lit (.int .u8 1), .lit (.int .u8 1), .lit (.int .u8 1), .lit (.int .u8 1), .lit (.int .u8 1), .lit (.int .u8 1), .lit (.int .u8 1), .lit (.int .u8 1), .lit (.int .u8 1), .lit (.int .u8 1), .lit (.int .u8 1), .lit (.int .u8 1), .lit (.int .u8 1), .lit (.int .u8 1), .lit (.int .u8 1), .lit (.int .u8 1), .lit (.int .u8 1), .lit (.int .u8 1), .lit (.int .u8 1), .lit (.int .u8 1), .lit (.int .u8 1), .lit (.int .u8 1), .lit (.int .u8 1), .lit (.int .u8 1), .lit (.int .u8 1), .lit (.int .u8 1), .lit (.int .u8 1), .lit (.int .u8 2), .lit (.int .u8 1), .lit (.int .u8 2), .lit (.int .u8 1), .lit (.int .u8 2), .lit (.int .u8 1), .lit (.int .u8 3), .lit (.int .u8 2), .lit (.int .u8 3), .lit (.int .u8 1), .lit (.int .u8 3), .lit (.int .u8 2), .lit (.int .u8 3), .lit (.int .u8 4), .lit (.int .u8 5), .lit (.int .u8 6), .lit (.int .u8 1), .lit (.int .u8 7), .lit (.int .u8 6), .lit (.int .u8 5), .lit (.int .u8 4), .lit (.int .u8 3), .lit (.int .u8 5), .lit (.int .u8 7), .lit (.int .u8 2), .lit (.int .u8 9), .lit (.int .u8 7), .lit (.int .u8 5), .lit (.int .u8 8), .lit (.int .u8 3), .lit (.int .u8 10), .lit (.int .u8 7), .lit (.int .u8 4)]
def laid_loop_example_pub_runtimeparts_pub_sizeclasses_SizeClassToDivMagic {H : Type} : DataW H := .agg [.lit (.int .u32 0), .lit (.int .u32 536870912), .lit (.int .u32 268435456), .lit (.int .u32 178956971), .lit (.int .u32 134217728), .lit (.int .u32 89478486), .lit (.int .u32 67108864), .lit (.int .u32 53687092), .lit (.int .u32 44739243), .lit (.int .u32 38347923), .lit (.int .u32 33554432), .lit (.int .u32 29826162), .lit (.int .u32 26843546), .lit (.int .u32 24403224), .lit (.int .u32 22369622), .lit (.int .u32 20648882), .lit (.int .u32 19173962), .lit (.int .u32 17895698), .lit (.int .u32 16777216), .lit (.int .u32 14913081), .lit (.int .u32 13421773), .lit (.int .u32 12201612), .lit (.int .u32 11184811), .lit (.int .u32 10324441), .lit (.int .u32 9586981), .lit (.int .u32 8947849), .lit (.int .u32 8388608), .lit (.int .u32 7456541), .lit (.int .u32 6710887), .lit (.int .u32 6100806), .lit (.int .u32 5592406), .lit (.int .u32 4793491), .lit (.int .u32 4194304), .lit (.int .u32 3728271), .lit (.int .u32 3355444), .lit (.int .u32 3050403), .lit (.int .u32 2796203), .lit (.int .u32 2396746), .lit (.int .u32 2097152), .lit (.int .u32 1864136), .lit (.int .u32 1597831), .lit (.int .u32 1398102), .lit (.int .u32 1342178), .lit (.int .u32 1242757), .lit (.int .u32 1048576), .lit (.int .u32 883012), .lit (.int .u32 798916), .lit (.int .u32 699051), .lit (.int .u32 657931), .lit (.int .u32 633103), .lit (.int .u32 621379), .lit (.int .u32 524288), .lit (.int .u32 453439), .lit (.int .u32 441506), .lit (.int .u32 419431), .lit (.int .u32 394759), .lit (.int .u32 349526), .lit (.int .u32 316552), .lit (.int .u32 299594), .lit (.int .u32 262144), .lit (.int .u32 233017), .lit (.int .u32 225198), .lit (.int .u32 209716), .lit (.int .u32 197380), .lit (.int .u32 174763), .lit (.int .u32 157533), .lit (.int .u32 149797), .lit (.int .u32 131072)]

/-- 'laws.FnSizesAligned': WHATEVER THE INPUT: true; the input reads as it did. -/
def fnSizesAlignedSpec : ChangeSpec := { name := "fnSizesAligned", vars := ["loop.example/pub-runtimeparts/pub/sizeclasses.SizeClassToSize"], fn := fun _ => fun
  | [d, g1] => { results := [.lit (.bool true)], args := [d], vars := [g1] }
  | _ => none }
def fnSizesAlignedRow : OpenClaim := { program := "ytndcokbkocifpaadoor", sum := "9aa0b74a7a2ab27b03045d8f447afb5452322fea9cb2d65179e28a1965276d6c", func := "loop.example/pub-runtimeparts/laws.FnSizesAligned", spec := "fnSizesAligned", named := ["loop.example/pub-runtimeparts/pub/sizeclasses.SizeClassToSize"], apart := false, laid := [("loop.example/pub-runtimeparts/pub/sizeclasses.SizeClassToSize", laid_loop_example_pub_runtimeparts_pub_sizeclasses_SizeClassToSize)] }
def FnSizesAlignedSaid : Prop := fnSizesAlignedRow.holds Tryd.pinned (OpenSpec.ofChange fnSizesAlignedSpec)

/-- ITS FALSE NEIGHBOUR: 'it returns false'. Refute it at one input. -/
def fnSizesAlignedWrong : ChangeSpec := { name := "fnSizesAligned", vars := ["loop.example/pub-runtimeparts/pub/sizeclasses.SizeClassToSize"], fn := fun _ => fun
  | [d, g1] => { results := [.lit (.bool false)], args := [d], vars := [g1] }
  | _ => none }
def FnSizesAlignedWrongFalsely : Prop := fnSizesAlignedRow.holds Tryd.pinned (OpenSpec.ofChange fnSizesAlignedWrong)

/-- 'laws.FnSizesAscend': WHATEVER THE INPUT: true; the input reads as it did. -/
def fnSizesAscendSpec : ChangeSpec := { name := "fnSizesAscend", vars := ["loop.example/pub-runtimeparts/pub/sizeclasses.SizeClassToSize"], fn := fun _ => fun
  | [d, g1] => { results := [.lit (.bool true)], args := [d], vars := [g1] }
  | _ => none }
def fnSizesAscendRow : OpenClaim := { program := "ytndcokbkocifpaadoor", sum := "9aa0b74a7a2ab27b03045d8f447afb5452322fea9cb2d65179e28a1965276d6c", func := "loop.example/pub-runtimeparts/laws.FnSizesAscend", spec := "fnSizesAscend", named := ["loop.example/pub-runtimeparts/pub/sizeclasses.SizeClassToSize"], apart := false, laid := [("loop.example/pub-runtimeparts/pub/sizeclasses.SizeClassToSize", laid_loop_example_pub_runtimeparts_pub_sizeclasses_SizeClassToSize)] }
def FnSizesAscendSaid : Prop := fnSizesAscendRow.holds Tryd.pinned (OpenSpec.ofChange fnSizesAscendSpec)

/-- ITS FALSE NEIGHBOUR: 'it returns false'. Refute it at one input. -/
def fnSizesAscendWrong : ChangeSpec := { name := "fnSizesAscend", vars := ["loop.example/pub-runtimeparts/pub/sizeclasses.SizeClassToSize"], fn := fun _ => fun
  | [d, g1] => { results := [.lit (.bool false)], args := [d], vars := [g1] }
  | _ => none }
def FnSizesAscendWrongFalsely : Prop := fnSizesAscendRow.holds Tryd.pinned (OpenSpec.ofChange fnSizesAscendWrong)

/-- 'laws.FnClass128': WHATEVER THE INPUT: true; the input reads as it did. -/
def fnClass128Spec : ChangeSpec := { name := "fnClass128", vars := ["loop.example/pub-runtimeparts/pub/sizeclasses.SizeClassToSize", "loop.example/pub-runtimeparts/pub/sizeclasses.SizeToSizeClass128"], fn := fun _ => fun
  | [d, g1, g2] => { results := [.lit (.bool true)], args := [d], vars := [g1, g2] }
  | _ => none }
def fnClass128Row : OpenClaim := { program := "ytndcokbkocifpaadoor", sum := "9aa0b74a7a2ab27b03045d8f447afb5452322fea9cb2d65179e28a1965276d6c", func := "loop.example/pub-runtimeparts/laws.FnClass128", spec := "fnClass128", named := ["loop.example/pub-runtimeparts/pub/sizeclasses.SizeClassToSize", "loop.example/pub-runtimeparts/pub/sizeclasses.SizeToSizeClass128"], apart := false, laid := [("loop.example/pub-runtimeparts/pub/sizeclasses.SizeClassToSize", laid_loop_example_pub_runtimeparts_pub_sizeclasses_SizeClassToSize), ("loop.example/pub-runtimeparts/pub/sizeclasses.SizeToSizeClass128", laid_loop_example_pub_runtimeparts_pub_sizeclasses_SizeToSizeClass128)] }
def FnClass128Said : Prop := fnClass128Row.holds Tryd.pinned (OpenSpec.ofChange fnClass128Spec)

/-- ITS FALSE NEIGHBOUR: 'it returns false'. Refute it at one input. -/
def fnClass128Wrong : ChangeSpec := { name := "fnClass128", vars := ["loop.example/pub-runtimeparts/pub/sizeclasses.SizeClassToSize", "loop.example/pub-runtimeparts/pub/sizeclasses.SizeToSizeClass128"], fn := fun _ => fun
  | [d, g1, g2] => { results := [.lit (.bool false)], args := [d], vars := [g1, g2] }
  | _ => none }
def FnClass128WrongFalsely : Prop := fnClass128Row.holds Tryd.pinned (OpenSpec.ofChange fnClass128Wrong)

/-- 'laws.FnClass8': WHATEVER THE INPUT: true; the input reads as it did. -/
def fnClass8Spec : ChangeSpec := { name := "fnClass8", vars := ["loop.example/pub-runtimeparts/pub/sizeclasses.SizeClassToSize", "loop.example/pub-runtimeparts/pub/sizeclasses.SizeToSizeClass8"], fn := fun _ => fun
  | [d, g1, g2] => { results := [.lit (.bool true)], args := [d], vars := [g1, g2] }
  | _ => none }
def fnClass8Row : OpenClaim := { program := "ytndcokbkocifpaadoor", sum := "9aa0b74a7a2ab27b03045d8f447afb5452322fea9cb2d65179e28a1965276d6c", func := "loop.example/pub-runtimeparts/laws.FnClass8", spec := "fnClass8", named := ["loop.example/pub-runtimeparts/pub/sizeclasses.SizeClassToSize", "loop.example/pub-runtimeparts/pub/sizeclasses.SizeToSizeClass8"], apart := false, laid := [("loop.example/pub-runtimeparts/pub/sizeclasses.SizeClassToSize", laid_loop_example_pub_runtimeparts_pub_sizeclasses_SizeClassToSize), ("loop.example/pub-runtimeparts/pub/sizeclasses.SizeToSizeClass8", laid_loop_example_pub_runtimeparts_pub_sizeclasses_SizeToSizeClass8)] }
def FnClass8Said : Prop := fnClass8Row.holds Tryd.pinned (OpenSpec.ofChange fnClass8Spec)

/-- ITS FALSE NEIGHBOUR: 'it returns false'. Refute it at one input. -/
def fnClass8Wrong : ChangeSpec := { name := "fnClass8", vars := ["loop.example/pub-runtimeparts/pub/sizeclasses.SizeClassToSize", "loop.example/pub-runtimeparts/pub/sizeclasses.SizeToSizeClass8"], fn := fun _ => fun
  | [d, g1, g2] => { results := [.lit (.bool false)], args := [d], vars := [g1, g2] }
  | _ => none }
def FnClass8WrongFalsely : Prop := fnClass8Row.holds Tryd.pinned (OpenSpec.ofChange fnClass8Wrong)

/-- 'laws.FnPagesHold': WHATEVER THE INPUT: true; the input reads as it did. -/
def fnPagesHoldSpec : ChangeSpec := { name := "fnPagesHold", vars := ["loop.example/pub-runtimeparts/pub/sizeclasses.SizeClassToSize", "loop.example/pub-runtimeparts/pub/sizeclasses.SizeClassToNPages"], fn := fun _ => fun
  | [d, g1, g2] => { results := [.lit (.bool true)], args := [d], vars := [g1, g2] }
  | _ => none }
def fnPagesHoldRow : OpenClaim := { program := "ytndcokbkocifpaadoor", sum := "9aa0b74a7a2ab27b03045d8f447afb5452322fea9cb2d65179e28a1965276d6c", func := "loop.example/pub-runtimeparts/laws.FnPagesHold", spec := "fnPagesHold", named := ["loop.example/pub-runtimeparts/pub/sizeclasses.SizeClassToSize", "loop.example/pub-runtimeparts/pub/sizeclasses.SizeClassToNPages"], apart := false, laid := [("loop.example/pub-runtimeparts/pub/sizeclasses.SizeClassToSize", laid_loop_example_pub_runtimeparts_pub_sizeclasses_SizeClassToSize), ("loop.example/pub-runtimeparts/pub/sizeclasses.SizeClassToNPages", laid_loop_example_pub_runtimeparts_pub_sizeclasses_SizeClassToNPages)] }
def FnPagesHoldSaid : Prop := fnPagesHoldRow.holds Tryd.pinned (OpenSpec.ofChange fnPagesHoldSpec)

/-- ITS FALSE NEIGHBOUR: 'it returns false'. Refute it at one input. -/
def fnPagesHoldWrong : ChangeSpec := { name := "fnPagesHold", vars := ["loop.example/pub-runtimeparts/pub/sizeclasses.SizeClassToSize", "loop.example/pub-runtimeparts/pub/sizeclasses.SizeClassToNPages"], fn := fun _ => fun
  | [d, g1, g2] => { results := [.lit (.bool false)], args := [d], vars := [g1, g2] }
  | _ => none }
def FnPagesHoldWrongFalsely : Prop := fnPagesHoldRow.holds Tryd.pinned (OpenSpec.ofChange fnPagesHoldWrong)

/-- 'laws.FnPagesWaste': WHATEVER THE INPUT: true; the input reads as it did. -/
def fnPagesWasteSpec : ChangeSpec := { name := "fnPagesWaste", vars := ["loop.example/pub-runtimeparts/pub/sizeclasses.SizeClassToSize", "loop.example/pub-runtimeparts/pub/sizeclasses.SizeClassToNPages"], fn := fun _ => fun
  | [d, g1, g2] => { results := [.lit (.bool true)], args := [d], vars := [g1, g2] }
  | _ => none }
def fnPagesWasteRow : OpenClaim := { program := "ytndcokbkocifpaadoor", sum := "9aa0b74a7a2ab27b03045d8f447afb5452322fea9cb2d65179e28a1965276d6c", func := "loop.example/pub-runtimeparts/laws.FnPagesWaste", spec := "fnPagesWaste", named := ["loop.example/pub-runtimeparts/pub/sizeclasses.SizeClassToSize", "loop.example/pub-runtimeparts/pub/sizeclasses.SizeClassToNPages"], apart := false, laid := [("loop.example/pub-runtimeparts/pub/sizeclasses.SizeClassToSize", laid_loop_example_pub_runtimeparts_pub_sizeclasses_SizeClassToSize), ("loop.example/pub-runtimeparts/pub/sizeclasses.SizeClassToNPages", laid_loop_example_pub_runtimeparts_pub_sizeclasses_SizeClassToNPages)] }
def FnPagesWasteSaid : Prop := fnPagesWasteRow.holds Tryd.pinned (OpenSpec.ofChange fnPagesWasteSpec)

/-- ITS FALSE NEIGHBOUR: 'it returns false'. Refute it at one input. -/
def fnPagesWasteWrong : ChangeSpec := { name := "fnPagesWaste", vars := ["loop.example/pub-runtimeparts/pub/sizeclasses.SizeClassToSize", "loop.example/pub-runtimeparts/pub/sizeclasses.SizeClassToNPages"], fn := fun _ => fun
  | [d, g1, g2] => { results := [.lit (.bool false)], args := [d], vars := [g1, g2] }
  | _ => none }
def FnPagesWasteWrongFalsely : Prop := fnPagesWasteRow.holds Tryd.pinned (OpenSpec.ofChange fnPagesWasteWrong)

/-- 'laws.FnClassLeast': WHATEVER THE INPUT: true; the input reads as it did. -/
def fnClassLeastSpec : ChangeSpec := { name := "fnClassLeast", vars := ["loop.example/pub-runtimeparts/pub/sizeclasses.SizeClassToSize", "loop.example/pub-runtimeparts/pub/sizeclasses.SizeToSizeClass8", "loop.example/pub-runtimeparts/pub/sizeclasses.SizeToSizeClass128"], fn := fun _ => fun
  | [d, g1, g2, g3] => { results := [.lit (.bool true)], args := [d], vars := [g1, g2, g3] }
  | _ => none }
def fnClassLeastRow : OpenClaim := { program := "ytndcokbkocifpaadoor", sum := "9aa0b74a7a2ab27b03045d8f447afb5452322fea9cb2d65179e28a1965276d6c", func := "loop.example/pub-runtimeparts/laws.FnClassLeast", spec := "fnClassLeast", named := ["loop.example/pub-runtimeparts/pub/sizeclasses.SizeClassToSize", "loop.example/pub-runtimeparts/pub/sizeclasses.SizeToSizeClass8", "loop.example/pub-runtimeparts/pub/sizeclasses.SizeToSizeClass128"], apart := false, laid := [("loop.example/pub-runtimeparts/pub/sizeclasses.SizeClassToSize", laid_loop_example_pub_runtimeparts_pub_sizeclasses_SizeClassToSize), ("loop.example/pub-runtimeparts/pub/sizeclasses.SizeToSizeClass8", laid_loop_example_pub_runtimeparts_pub_sizeclasses_SizeToSizeClass8), ("loop.example/pub-runtimeparts/pub/sizeclasses.SizeToSizeClass128", laid_loop_example_pub_runtimeparts_pub_sizeclasses_SizeToSizeClass128)] }
def FnClassLeastSaid : Prop := fnClassLeastRow.holds Tryd.pinned (OpenSpec.ofChange fnClassLeastSpec)

/-- ITS FALSE NEIGHBOUR: 'it returns false'. Refute it at one input. -/
def fnClassLeastWrong : ChangeSpec := { name := "fnClassLeast", vars := ["loop.example/pub-runtimeparts/pub/sizeclasses.SizeClassToSize", "loop.example/pub-runtimeparts/pub/sizeclasses.SizeToSizeClass8", "loop.example/pub-runtimeparts/pub/sizeclasses.SizeToSizeClass128"], fn := fun _ => fun
  | [d, g1, g2, g3] => { results := [.lit (.bool false)], args := [d], vars := [g1, g2, g3] }
  | _ => none }
def FnClassLeastWrongFalsely : Prop := fnClassLeastRow.holds Tryd.pinned (OpenSpec.ofChange fnClassLeastWrong)

/-- 'laws.FnMagic': WHATEVER THE INPUT: true; the input reads as it did. -/
def fnMagicSpec : ChangeSpec := { name := "fnMagic", vars := ["loop.example/pub-runtimeparts/pub/sizeclasses.SizeClassToNPages", "loop.example/pub-runtimeparts/pub/sizeclasses.SizeClassToSize", "loop.example/pub-runtimeparts/pub/sizeclasses.SizeClassToDivMagic"], fn := fun _ => fun
  | [d1, d2, g1, g2, g3] => { results := [.lit (.bool true)], args := [d1, d2], vars := [g1, g2, g3] }
  | _ => none }
def fnMagicRow : OpenClaim := { program := "ytndcokbkocifpaadoor", sum := "9aa0b74a7a2ab27b03045d8f447afb5452322fea9cb2d65179e28a1965276d6c", func := "loop.example/pub-runtimeparts/laws.FnMagic", spec := "fnMagic", named := ["loop.example/pub-runtimeparts/pub/sizeclasses.SizeClassToNPages", "loop.example/pub-runtimeparts/pub/sizeclasses.SizeClassToSize", "loop.example/pub-runtimeparts/pub/sizeclasses.SizeClassToDivMagic"], apart := false, laid := [("loop.example/pub-runtimeparts/pub/sizeclasses.SizeClassToSize", laid_loop_example_pub_runtimeparts_pub_sizeclasses_SizeClassToSize), ("loop.example/pub-runtimeparts/pub/sizeclasses.SizeClassToNPages", laid_loop_example_pub_runtimeparts_pub_sizeclasses_SizeClassToNPages), ("loop.example/pub-runtimeparts/pub/sizeclasses.SizeClassToDivMagic", laid_loop_example_pub_runtimeparts_pub_sizeclasses_SizeClassToDivMagic)] }
def FnMagicSaid : Prop := fnMagicRow.holds Tryd.pinned (OpenSpec.ofChange fnMagicSpec)

/-- ITS FALSE NEIGHBOUR: 'it returns false'. Refute it at one input. -/
def fnMagicWrong : ChangeSpec := { name := "fnMagic", vars := ["loop.example/pub-runtimeparts/pub/sizeclasses.SizeClassToNPages", "loop.example/pub-runtimeparts/pub/sizeclasses.SizeClassToSize", "loop.example/pub-runtimeparts/pub/sizeclasses.SizeClassToDivMagic"], fn := fun _ => fun
  | [d1, d2, g1, g2, g3] => { results := [.lit (.bool false)], args := [d1, d2], vars := [g1, g2, g3] }
  | _ => none }
def FnMagicWrongFalsely : Prop := fnMagicRow.holds Tryd.pinned (OpenSpec.ofChange fnMagicWrong)

/- THE SECOND FORM. 'bulk': how many values and letters a reading holds, each counted each time it is reached (what is shared counts as often as it is met; a slice's spare places count too). A statement '..UptoSaid' is the law's where the arguments, and the package variables that the reading takes, are together of bulk at most 1048576: NARROWER than '..Said'. Prove '..Said' where nothing that the law and all that it calls make is longer than what came in: it says more and counts as full. Else prove '..UptoSaid'. A law counts once. -/
mutual
def uptoBulk {H : Type} : DataW H → Nat
  | .lit (.string bytes) => bytes.length + 1
  | .lit _ => 1
  | .nil => 1
  | .ptr d => uptoBulk d + 1
  | .slice elems spare => uptoBulkAll elems + uptoBulkAll spare + 1
  | .agg parts => uptoBulkAll parts + 1
  | .iface _ d => uptoBulk d + 1
  | .map entries => uptoBulkEntries entries + 1
  | .held _ => 1
def uptoBulkAll {H : Type} : List (DataW H) → Nat
  | [] => 0
  | d :: r => uptoBulk d + uptoBulkAll r
def uptoBulkEntries {H : Type} : List (Lit × DataW H) → Nat
  | [] => 0
  | x :: r => uptoBulkEntry x + uptoBulkEntries r
def uptoBulkEntry {H : Type} : Lit × DataW H → Nat
  | (.string bytes, d) => bytes.length + uptoBulk d + 1
  | (_, d) => uptoBulk d + 1
 end
def uptoSmall : (H : Type) → List (DataW H) → Bool := fun _ ds => decide (uptoBulkAll ds ≤ 1048576)
def OpenSpec.upto (s : _root_.Go.ChangeSpec) : _root_.Go.OpenSpec := { _root_.Go.OpenSpec.ofChange s with cond := some uptoSmall }

/-- 'laws.FnSizesAligned', WHERE WHAT IT READS IS OF BULK AT MOST 1048576: true; the input reads as it did. -/
def fnSizesAlignedUptoRow : OpenClaim := { program := "ytndcokbkocifpaadoor", sum := "9aa0b74a7a2ab27b03045d8f447afb5452322fea9cb2d65179e28a1965276d6c", func := "loop.example/pub-runtimeparts/laws.FnSizesAligned", spec := "fnSizesAligned", named := ["loop.example/pub-runtimeparts/pub/sizeclasses.SizeClassToSize"], apart := false, laid := [("loop.example/pub-runtimeparts/pub/sizeclasses.SizeClassToSize", laid_loop_example_pub_runtimeparts_pub_sizeclasses_SizeClassToSize)], narrowed := true }
def FnSizesAlignedUptoSaid : Prop := fnSizesAlignedUptoRow.holds Tryd.pinned (OpenSpec.upto fnSizesAlignedSpec)

/-- 'laws.FnSizesAscend', WHERE WHAT IT READS IS OF BULK AT MOST 1048576: true; the input reads as it did. -/
def fnSizesAscendUptoRow : OpenClaim := { program := "ytndcokbkocifpaadoor", sum := "9aa0b74a7a2ab27b03045d8f447afb5452322fea9cb2d65179e28a1965276d6c", func := "loop.example/pub-runtimeparts/laws.FnSizesAscend", spec := "fnSizesAscend", named := ["loop.example/pub-runtimeparts/pub/sizeclasses.SizeClassToSize"], apart := false, laid := [("loop.example/pub-runtimeparts/pub/sizeclasses.SizeClassToSize", laid_loop_example_pub_runtimeparts_pub_sizeclasses_SizeClassToSize)], narrowed := true }
def FnSizesAscendUptoSaid : Prop := fnSizesAscendUptoRow.holds Tryd.pinned (OpenSpec.upto fnSizesAscendSpec)

/-- 'laws.FnClass128', WHERE WHAT IT READS IS OF BULK AT MOST 1048576: true; the input reads as it did. -/
def fnClass128UptoRow : OpenClaim := { program := "ytndcokbkocifpaadoor", sum := "9aa0b74a7a2ab27b03045d8f447afb5452322fea9cb2d65179e28a1965276d6c", func := "loop.example/pub-runtimeparts/laws.FnClass128", spec := "fnClass128", named := ["loop.example/pub-runtimeparts/pub/sizeclasses.SizeClassToSize", "loop.example/pub-runtimeparts/pub/sizeclasses.SizeToSizeClass128"], apart := false, laid := [("loop.example/pub-runtimeparts/pub/sizeclasses.SizeClassToSize", laid_loop_example_pub_runtimeparts_pub_sizeclasses_SizeClassToSize), ("loop.example/pub-runtimeparts/pub/sizeclasses.SizeToSizeClass128", laid_loop_example_pub_runtimeparts_pub_sizeclasses_SizeToSizeClass128)], narrowed := true }
def FnClass128UptoSaid : Prop := fnClass128UptoRow.holds Tryd.pinned (OpenSpec.upto fnClass128Spec)

/-- 'laws.FnClass8', WHERE WHAT IT READS IS OF BULK AT MOST 1048576: true; the input reads as it did. -/
def fnClass8UptoRow : OpenClaim := { program := "ytndcokbkocifpaadoor", sum := "9aa0b74a7a2ab27b03045d8f447afb5452322fea9cb2d65179e28a1965276d6c", func := "loop.example/pub-runtimeparts/laws.FnClass8", spec := "fnClass8", named := ["loop.example/pub-runtimeparts/pub/sizeclasses.SizeClassToSize", "loop.example/pub-runtimeparts/pub/sizeclasses.SizeToSizeClass8"], apart := false, laid := [("loop.example/pub-runtimeparts/pub/sizeclasses.SizeClassToSize", laid_loop_example_pub_runtimeparts_pub_sizeclasses_SizeClassToSize), ("loop.example/pub-runtimeparts/pub/sizeclasses.SizeToSizeClass8", laid_loop_example_pub_runtimeparts_pub_sizeclasses_SizeToSizeClass8)], narrowed := true }
def FnClass8UptoSaid : Prop := fnClass8UptoRow.holds Tryd.pinned (OpenSpec.upto fnClass8Spec)

/-- 'laws.FnPagesHold', WHERE WHAT IT READS IS OF BULK AT MOST 1048576: true; the input reads as it did. -/
def fnPagesHoldUptoRow : OpenClaim := { program := "ytndcokbkocifpaadoor", sum := "9aa0b74a7a2ab27b03045d8f447afb5452322fea9cb2d65179e28a1965276d6c", func := "loop.example/pub-runtimeparts/laws.FnPagesHold", spec := "fnPagesHold", named := ["loop.example/pub-runtimeparts/pub/sizeclasses.SizeClassToSize", "loop.example/pub-runtimeparts/pub/sizeclasses.SizeClassToNPages"], apart := false, laid := [("loop.example/pub-runtimeparts/pub/sizeclasses.SizeClassToSize", laid_loop_example_pub_runtimeparts_pub_sizeclasses_SizeClassToSize), ("loop.example/pub-runtimeparts/pub/sizeclasses.SizeClassToNPages", laid_loop_example_pub_runtimeparts_pub_sizeclasses_SizeClassToNPages)], narrowed := true }
def FnPagesHoldUptoSaid : Prop := fnPagesHoldUptoRow.holds Tryd.pinned (OpenSpec.upto fnPagesHoldSpec)

/-- 'laws.FnPagesWaste', WHERE WHAT IT READS IS OF BULK AT MOST 1048576: true; the input reads as it did. -/
def fnPagesWasteUptoRow : OpenClaim := { program := "ytndcokbkocifpaadoor", sum := "9aa0b74a7a2ab27b03045d8f447afb5452322fea9cb2d65179e28a1965276d6c", func := "loop.example/pub-runtimeparts/laws.FnPagesWaste", spec := "fnPagesWaste", named := ["loop.example/pub-runtimeparts/pub/sizeclasses.SizeClassToSize", "loop.example/pub-runtimeparts/pub/sizeclasses.SizeClassToNPages"], apart := false, laid := [("loop.example/pub-runtimeparts/pub/sizeclasses.SizeClassToSize", laid_loop_example_pub_runtimeparts_pub_sizeclasses_SizeClassToSize), ("loop.example/pub-runtimeparts/pub/sizeclasses.SizeClassToNPages", laid_loop_example_pub_runtimeparts_pub_sizeclasses_SizeClassToNPages)], narrowed := true }
def FnPagesWasteUptoSaid : Prop := fnPagesWasteUptoRow.holds Tryd.pinned (OpenSpec.upto fnPagesWasteSpec)

/-- 'laws.FnClassLeast', WHERE WHAT IT READS IS OF BULK AT MOST 1048576: true; the input reads as it did. -/
def fnClassLeastUptoRow : OpenClaim := { program := "ytndcokbkocifpaadoor", sum := "9aa0b74a7a2ab27b03045d8f447afb5452322fea9cb2d65179e28a1965276d6c", func := "loop.example/pub-runtimeparts/laws.FnClassLeast", spec := "fnClassLeast", named := ["loop.example/pub-runtimeparts/pub/sizeclasses.SizeClassToSize", "loop.example/pub-runtimeparts/pub/sizeclasses.SizeToSizeClass8", "loop.example/pub-runtimeparts/pub/sizeclasses.SizeToSizeClass128"], apart := false, laid := [("loop.example/pub-runtimeparts/pub/sizeclasses.SizeClassToSize", laid_loop_example_pub_runtimeparts_pub_sizeclasses_SizeClassToSize), ("loop.example/pub-runtimeparts/pub/sizeclasses.SizeToSizeClass8", laid_loop_example_pub_runtimeparts_pub_sizeclasses_SizeToSizeClass8), ("loop.example/pub-runtimeparts/pub/sizeclasses.SizeToSizeClass128", laid_loop_example_pub_runtimeparts_pub_sizeclasses_SizeToSizeClass128)], narrowed := true }
def FnClassLeastUptoSaid : Prop := fnClassLeastUptoRow.holds Tryd.pinned (OpenSpec.upto fnClassLeastSpec)

/-- 'laws.FnMagic', WHERE WHAT IT READS IS OF BULK AT MOST 1048576: true; the input reads as it did. -/
def fnMagicUptoRow : OpenClaim := { program := "ytndcokbkocifpaadoor", sum := "9aa0b74a7a2ab27b03045d8f447afb5452322fea9cb2d65179e28a1965276d6c", func := "loop.example/pub-runtimeparts/laws.FnMagic", spec := "fnMagic", named := ["loop.example/pub-runtimeparts/pub/sizeclasses.SizeClassToNPages", "loop.example/pub-runtimeparts/pub/sizeclasses.SizeClassToSize", "loop.example/pub-runtimeparts/pub/sizeclasses.SizeClassToDivMagic"], apart := false, laid := [("loop.example/pub-runtimeparts/pub/sizeclasses.SizeClassToSize", laid_loop_example_pub_runtimeparts_pub_sizeclasses_SizeClassToSize), ("loop.example/pub-runtimeparts/pub/sizeclasses.SizeClassToNPages", laid_loop_example_pub_runtimeparts_pub_sizeclasses_SizeClassToNPages), ("loop.example/pub-runtimeparts/pub/sizeclasses.SizeClassToDivMagic", laid_loop_example_pub_runtimeparts_pub_sizeclasses_SizeClassToDivMagic)], narrowed := true }
def FnMagicUptoSaid : Prop := fnMagicUptoRow.holds Tryd.pinned (OpenSpec.upto fnMagicSpec)

end Rows
end Go.Proofs.YtndcokbkocifpaaDoor
