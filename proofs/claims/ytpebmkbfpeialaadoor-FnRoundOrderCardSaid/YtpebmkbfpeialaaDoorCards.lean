/-
  DERIVED. GIVEN WITH THE SEED: THE CARDS: each row of YtpebmkbfpeialaaDoorRows.lean that lists a variable, with what it lists TIED to the program's text (the seventh form; the later family's looks); each row that meets fmt, with fmt's text TOLD by the authors' own Lean function (tested against real Go, not proved from fmt's source: count such statements apart). THE CARD IS WHAT COUNTS. Prove the row's statement (the work); the ties are given (YtpebmkbfpeialaaDoorTie.lean); close each card by the builder's one call (the guide's Derived/Test/ToyasCard.lean, 'card_holds'). Laid BY PROGRAM, IN A SANDBOX (cutbox-door.mjs). By AI agents, Wed Nov 11 2026. No macro, syntax, notation, axiom, sorry.
-/
import Derived.Test.YtpebmkbfpeialaaDoorRows
import GoSem.ClaimSeven
namespace Go.Proofs.YtpebmkbfpeialaaDoor
namespace Rows

/-- THE TIED CARD OF 'laws.FnRoundGrow'. -/
def fnRoundGrowCard : Claim7 := { stood := { row := fnRoundGrowRow, standIns := [], harness := (true, "1e448e5675b5699a988a60474e29be84404a6ccef3f95392cd7fcc6a292d6311"), looks := false }, kinds := [], alts := [], laidByText := true, laidKinds := [.data, .data, .data], laidTests := true, laidLooks := .later }
def FnRoundGrowCardSaid : Prop := Claim7.holds Tryd.pinned (.plain (OpenSpec.ofChange fnRoundGrowSpec)) fnRoundGrowCard

/-- THE TIED CARD OF 'laws.FnRoundOrder'. -/
def fnRoundOrderCard : Claim7 := { stood := { row := fnRoundOrderRow, standIns := [], harness := (true, "1e448e5675b5699a988a60474e29be84404a6ccef3f95392cd7fcc6a292d6311"), looks := false }, kinds := [], alts := [], laidByText := true, laidKinds := [.data, .data, .data], laidTests := true, laidLooks := .later }
def FnRoundOrderCardSaid : Prop := Claim7.holds Tryd.pinned (.plain (OpenSpec.ofChange fnRoundOrderSpec)) fnRoundOrderCard

/-- THE TIED CARD OF 'laws.FnRoundTwice'. -/
def fnRoundTwiceCard : Claim7 := { stood := { row := fnRoundTwiceRow, standIns := [], harness := (true, "1e448e5675b5699a988a60474e29be84404a6ccef3f95392cd7fcc6a292d6311"), looks := false }, kinds := [], alts := [], laidByText := true, laidKinds := [.data, .data, .data], laidTests := true, laidLooks := .later }
def FnRoundTwiceCardSaid : Prop := Claim7.holds Tryd.pinned (.plain (OpenSpec.ofChange fnRoundTwiceSpec)) fnRoundTwiceCard

/-- THE TIED CARD OF 'laws.FnExactRoundHeader'. -/
def fnExactRoundHeaderCard : Claim7 := { stood := { row := fnExactRoundHeaderRow, standIns := [], harness := (true, "1e448e5675b5699a988a60474e29be84404a6ccef3f95392cd7fcc6a292d6311"), looks := false }, kinds := [], alts := [], laidByText := true, laidKinds := [.data, .data, .data], laidTests := true, laidLooks := .later }
def FnExactRoundHeaderCardSaid : Prop := Claim7.holds Tryd.pinned (.plain (OpenSpec.ofChange fnExactRoundHeaderSpec)) fnExactRoundHeaderCard

/-- THE TIED CARD OF 'laws.FnExactRoundLarge'. -/
def fnExactRoundLargeCard : Claim7 := { stood := { row := fnExactRoundLargeRow, standIns := [], harness := (true, "1e448e5675b5699a988a60474e29be84404a6ccef3f95392cd7fcc6a292d6311"), looks := false }, kinds := [], alts := [], laidByText := true, laidKinds := [.data, .data, .data], laidTests := true, laidLooks := .later }
def FnExactRoundLargeCardSaid : Prop := Claim7.holds Tryd.pinned (.plain (OpenSpec.ofChange fnExactRoundLargeSpec)) fnExactRoundLargeCard

/-- THE TIED CARD OF 'laws.FnExactRoundPlain'. -/
def fnExactRoundPlainCard : Claim7 := { stood := { row := fnExactRoundPlainRow, standIns := [], harness := (true, "1e448e5675b5699a988a60474e29be84404a6ccef3f95392cd7fcc6a292d6311"), looks := false }, kinds := [], alts := [], laidByText := true, laidKinds := [.data, .data, .data], laidTests := true, laidLooks := .later }
def FnExactRoundPlainCardSaid : Prop := Claim7.holds Tryd.pinned (.plain (OpenSpec.ofChange fnExactRoundPlainSpec)) fnExactRoundPlainCard

/-- THE TIED CARD OF 'laws.FnExactRoundSmall'. -/
def fnExactRoundSmallCard : Claim7 := { stood := { row := fnExactRoundSmallRow, standIns := [], harness := (true, "1e448e5675b5699a988a60474e29be84404a6ccef3f95392cd7fcc6a292d6311"), looks := false }, kinds := [], alts := [], laidByText := true, laidKinds := [.data, .data, .data], laidTests := true, laidLooks := .later }
def FnExactRoundSmallCardSaid : Prop := Claim7.holds Tryd.pinned (.plain (OpenSpec.ofChange fnExactRoundSmallSpec)) fnExactRoundSmallCard

/-- THE SECOND FORM's CARD OF 'laws.FnRoundGrow'. -/
def fnRoundGrowUptoCard : Claim7 := { stood := { row := fnRoundGrowUptoRow, standIns := [], harness := (true, "1e448e5675b5699a988a60474e29be84404a6ccef3f95392cd7fcc6a292d6311"), looks := false }, kinds := [], alts := [], laidByText := true, laidKinds := [.data, .data, .data], laidTests := true, laidLooks := .later }
def FnRoundGrowUptoCardSaid : Prop := Claim7.holds Tryd.pinned (.plain (OpenSpec.upto fnRoundGrowSpec)) fnRoundGrowUptoCard

/-- THE SECOND FORM's CARD OF 'laws.FnRoundOrder'. -/
def fnRoundOrderUptoCard : Claim7 := { stood := { row := fnRoundOrderUptoRow, standIns := [], harness := (true, "1e448e5675b5699a988a60474e29be84404a6ccef3f95392cd7fcc6a292d6311"), looks := false }, kinds := [], alts := [], laidByText := true, laidKinds := [.data, .data, .data], laidTests := true, laidLooks := .later }
def FnRoundOrderUptoCardSaid : Prop := Claim7.holds Tryd.pinned (.plain (OpenSpec.upto fnRoundOrderSpec)) fnRoundOrderUptoCard

/-- THE SECOND FORM's CARD OF 'laws.FnRoundTwice'. -/
def fnRoundTwiceUptoCard : Claim7 := { stood := { row := fnRoundTwiceUptoRow, standIns := [], harness := (true, "1e448e5675b5699a988a60474e29be84404a6ccef3f95392cd7fcc6a292d6311"), looks := false }, kinds := [], alts := [], laidByText := true, laidKinds := [.data, .data, .data], laidTests := true, laidLooks := .later }
def FnRoundTwiceUptoCardSaid : Prop := Claim7.holds Tryd.pinned (.plain (OpenSpec.upto fnRoundTwiceSpec)) fnRoundTwiceUptoCard

/-- THE SECOND FORM's CARD OF 'laws.FnExactRoundHeader'. -/
def fnExactRoundHeaderUptoCard : Claim7 := { stood := { row := fnExactRoundHeaderUptoRow, standIns := [], harness := (true, "1e448e5675b5699a988a60474e29be84404a6ccef3f95392cd7fcc6a292d6311"), looks := false }, kinds := [], alts := [], laidByText := true, laidKinds := [.data, .data, .data], laidTests := true, laidLooks := .later }
def FnExactRoundHeaderUptoCardSaid : Prop := Claim7.holds Tryd.pinned (.plain (OpenSpec.upto fnExactRoundHeaderSpec)) fnExactRoundHeaderUptoCard

/-- THE SECOND FORM's CARD OF 'laws.FnExactRoundLarge'. -/
def fnExactRoundLargeUptoCard : Claim7 := { stood := { row := fnExactRoundLargeUptoRow, standIns := [], harness := (true, "1e448e5675b5699a988a60474e29be84404a6ccef3f95392cd7fcc6a292d6311"), looks := false }, kinds := [], alts := [], laidByText := true, laidKinds := [.data, .data, .data], laidTests := true, laidLooks := .later }
def FnExactRoundLargeUptoCardSaid : Prop := Claim7.holds Tryd.pinned (.plain (OpenSpec.upto fnExactRoundLargeSpec)) fnExactRoundLargeUptoCard

/-- THE SECOND FORM's CARD OF 'laws.FnExactRoundPlain'. -/
def fnExactRoundPlainUptoCard : Claim7 := { stood := { row := fnExactRoundPlainUptoRow, standIns := [], harness := (true, "1e448e5675b5699a988a60474e29be84404a6ccef3f95392cd7fcc6a292d6311"), looks := false }, kinds := [], alts := [], laidByText := true, laidKinds := [.data, .data, .data], laidTests := true, laidLooks := .later }
def FnExactRoundPlainUptoCardSaid : Prop := Claim7.holds Tryd.pinned (.plain (OpenSpec.upto fnExactRoundPlainSpec)) fnExactRoundPlainUptoCard

/-- THE SECOND FORM's CARD OF 'laws.FnExactRoundSmall'. -/
def fnExactRoundSmallUptoCard : Claim7 := { stood := { row := fnExactRoundSmallUptoRow, standIns := [], harness := (true, "1e448e5675b5699a988a60474e29be84404a6ccef3f95392cd7fcc6a292d6311"), looks := false }, kinds := [], alts := [], laidByText := true, laidKinds := [.data, .data, .data], laidTests := true, laidLooks := .later }
def FnExactRoundSmallUptoCardSaid : Prop := Claim7.holds Tryd.pinned (.plain (OpenSpec.upto fnExactRoundSmallSpec)) fnExactRoundSmallUptoCard
end Rows
end Go.Proofs.YtpebmkbfpeialaaDoor
