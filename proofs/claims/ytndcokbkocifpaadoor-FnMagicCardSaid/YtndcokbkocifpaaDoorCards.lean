/-
  DERIVED. GIVEN WITH THE SEED: THE CARDS: each row of YtndcokbkocifpaaDoorRows.lean that lists a variable, with what it lists TIED to the program's text (the seventh form; the later family's looks); each row that meets fmt, with fmt's text TOLD by the authors' own Lean function (tested against real Go, not proved from fmt's source: count such statements apart). THE CARD IS WHAT COUNTS. Prove the row's statement (the work); the ties are given (YtndcokbkocifpaaDoorTie.lean); close each card by the builder's one call (the guide's Derived/Test/ToyasCard.lean, 'card_holds'). Laid BY PROGRAM, IN A SANDBOX (cutbox-door.mjs). By AI agents, Wed Nov 11 2026. No macro, syntax, notation, axiom, sorry.
-/
import Derived.Test.YtndcokbkocifpaaDoorRows
import GoSem.ClaimSeven
namespace Go.Proofs.YtndcokbkocifpaaDoor
namespace Rows

/-- THE TIED CARD OF 'laws.FnSizesAligned'. -/
def fnSizesAlignedCard : Claim7 := { stood := { row := fnSizesAlignedRow, standIns := [], harness := (true, "db9105289cec554a539286bd2710fa5e1f38fa277938e9fd0d911c2a5e36b2c2"), looks := false }, kinds := [], alts := [], laidByText := true, laidKinds := [.data], laidTests := true, laidLooks := .later }
def FnSizesAlignedCardSaid : Prop := Claim7.holds Tryd.pinned (.plain (OpenSpec.ofChange fnSizesAlignedSpec)) fnSizesAlignedCard

/-- THE TIED CARD OF 'laws.FnSizesAscend'. -/
def fnSizesAscendCard : Claim7 := { stood := { row := fnSizesAscendRow, standIns := [], harness := (true, "db9105289cec554a539286bd2710fa5e1f38fa277938e9fd0d911c2a5e36b2c2"), looks := false }, kinds := [], alts := [], laidByText := true, laidKinds := [.data], laidTests := true, laidLooks := .later }
def FnSizesAscendCardSaid : Prop := Claim7.holds Tryd.pinned (.plain (OpenSpec.ofChange fnSizesAscendSpec)) fnSizesAscendCard

/-- THE TIED CARD OF 'laws.FnClass128'. -/
def fnClass128Card : Claim7 := { stood := { row := fnClass128Row, standIns := [], harness := (true, "db9105289cec554a539286bd2710fa5e1f38fa277938e9fd0d911c2a5e36b2c2"), looks := false }, kinds := [], alts := [], laidByText := true, laidKinds := [.data, .data], laidTests := true, laidLooks := .later }
def FnClass128CardSaid : Prop := Claim7.holds Tryd.pinned (.plain (OpenSpec.ofChange fnClass128Spec)) fnClass128Card

/-- THE TIED CARD OF 'laws.FnClass8'. -/
def fnClass8Card : Claim7 := { stood := { row := fnClass8Row, standIns := [], harness := (true, "db9105289cec554a539286bd2710fa5e1f38fa277938e9fd0d911c2a5e36b2c2"), looks := false }, kinds := [], alts := [], laidByText := true, laidKinds := [.data, .data], laidTests := true, laidLooks := .later }
def FnClass8CardSaid : Prop := Claim7.holds Tryd.pinned (.plain (OpenSpec.ofChange fnClass8Spec)) fnClass8Card

/-- THE TIED CARD OF 'laws.FnPagesHold'. -/
def fnPagesHoldCard : Claim7 := { stood := { row := fnPagesHoldRow, standIns := [], harness := (true, "db9105289cec554a539286bd2710fa5e1f38fa277938e9fd0d911c2a5e36b2c2"), looks := false }, kinds := [], alts := [], laidByText := true, laidKinds := [.data, .data], laidTests := true, laidLooks := .later }
def FnPagesHoldCardSaid : Prop := Claim7.holds Tryd.pinned (.plain (OpenSpec.ofChange fnPagesHoldSpec)) fnPagesHoldCard

/-- THE TIED CARD OF 'laws.FnPagesWaste'. -/
def fnPagesWasteCard : Claim7 := { stood := { row := fnPagesWasteRow, standIns := [], harness := (true, "db9105289cec554a539286bd2710fa5e1f38fa277938e9fd0d911c2a5e36b2c2"), looks := false }, kinds := [], alts := [], laidByText := true, laidKinds := [.data, .data], laidTests := true, laidLooks := .later }
def FnPagesWasteCardSaid : Prop := Claim7.holds Tryd.pinned (.plain (OpenSpec.ofChange fnPagesWasteSpec)) fnPagesWasteCard

/-- THE TIED CARD OF 'laws.FnClassLeast'. -/
def fnClassLeastCard : Claim7 := { stood := { row := fnClassLeastRow, standIns := [], harness := (true, "db9105289cec554a539286bd2710fa5e1f38fa277938e9fd0d911c2a5e36b2c2"), looks := false }, kinds := [], alts := [], laidByText := true, laidKinds := [.data, .data, .data], laidTests := true, laidLooks := .later }
def FnClassLeastCardSaid : Prop := Claim7.holds Tryd.pinned (.plain (OpenSpec.ofChange fnClassLeastSpec)) fnClassLeastCard

/-- THE TIED CARD OF 'laws.FnMagic'. -/
def fnMagicCard : Claim7 := { stood := { row := fnMagicRow, standIns := [], harness := (true, "db9105289cec554a539286bd2710fa5e1f38fa277938e9fd0d911c2a5e36b2c2"), looks := false }, kinds := [], alts := [], laidByText := true, laidKinds := [.data, .data, .data], laidTests := true, laidLooks := .later }
def FnMagicCardSaid : Prop := Claim7.holds Tryd.pinned (.plain (OpenSpec.ofChange fnMagicSpec)) fnMagicCard

/-- THE SECOND FORM's CARD OF 'laws.FnSizesAligned'. -/
def fnSizesAlignedUptoCard : Claim7 := { stood := { row := fnSizesAlignedUptoRow, standIns := [], harness := (true, "db9105289cec554a539286bd2710fa5e1f38fa277938e9fd0d911c2a5e36b2c2"), looks := false }, kinds := [], alts := [], laidByText := true, laidKinds := [.data], laidTests := true, laidLooks := .later }
def FnSizesAlignedUptoCardSaid : Prop := Claim7.holds Tryd.pinned (.plain (OpenSpec.upto fnSizesAlignedSpec)) fnSizesAlignedUptoCard

/-- THE SECOND FORM's CARD OF 'laws.FnSizesAscend'. -/
def fnSizesAscendUptoCard : Claim7 := { stood := { row := fnSizesAscendUptoRow, standIns := [], harness := (true, "db9105289cec554a539286bd2710fa5e1f38fa277938e9fd0d911c2a5e36b2c2"), looks := false }, kinds := [], alts := [], laidByText := true, laidKinds := [.data], laidTests := true, laidLooks := .later }
def FnSizesAscendUptoCardSaid : Prop := Claim7.holds Tryd.pinned (.plain (OpenSpec.upto fnSizesAscendSpec)) fnSizesAscendUptoCard

/-- THE SECOND FORM's CARD OF 'laws.FnClass128'. -/
def fnClass128UptoCard : Claim7 := { stood := { row := fnClass128UptoRow, standIns := [], harness := (true, "db9105289cec554a539286bd2710fa5e1f38fa277938e9fd0d911c2a5e36b2c2"), looks := false }, kinds := [], alts := [], laidByText := true, laidKinds := [.data, .data], laidTests := true, laidLooks := .later }
def FnClass128UptoCardSaid : Prop := Claim7.holds Tryd.pinned (.plain (OpenSpec.upto fnClass128Spec)) fnClass128UptoCard

/-- THE SECOND FORM's CARD OF 'laws.FnClass8'. -/
def fnClass8UptoCard : Claim7 := { stood := { row := fnClass8UptoRow, standIns := [], harness := (true, "db9105289cec554a539286bd2710fa5e1f38fa277938e9fd0d911c2a5e36b2c2"), looks := false }, kinds := [], alts := [], laidByText := true, laidKinds := [.data, .data], laidTests := true, laidLooks := .later }
def FnClass8UptoCardSaid : Prop := Claim7.holds Tryd.pinned (.plain (OpenSpec.upto fnClass8Spec)) fnClass8UptoCard

/-- THE SECOND FORM's CARD OF 'laws.FnPagesHold'. -/
def fnPagesHoldUptoCard : Claim7 := { stood := { row := fnPagesHoldUptoRow, standIns := [], harness := (true, "db9105289cec554a539286bd2710fa5e1f38fa277938e9fd0d911c2a5e36b2c2"), looks := false }, kinds := [], alts := [], laidByText := true, laidKinds := [.data, .data], laidTests := true, laidLooks := .later }
def FnPagesHoldUptoCardSaid : Prop := Claim7.holds Tryd.pinned (.plain (OpenSpec.upto fnPagesHoldSpec)) fnPagesHoldUptoCard

/-- THE SECOND FORM's CARD OF 'laws.FnPagesWaste'. -/
def fnPagesWasteUptoCard : Claim7 := { stood := { row := fnPagesWasteUptoRow, standIns := [], harness := (true, "db9105289cec554a539286bd2710fa5e1f38fa277938e9fd0d911c2a5e36b2c2"), looks := false }, kinds := [], alts := [], laidByText := true, laidKinds := [.data, .data], laidTests := true, laidLooks := .later }
def FnPagesWasteUptoCardSaid : Prop := Claim7.holds Tryd.pinned (.plain (OpenSpec.upto fnPagesWasteSpec)) fnPagesWasteUptoCard

/-- THE SECOND FORM's CARD OF 'laws.FnClassLeast'. -/
def fnClassLeastUptoCard : Claim7 := { stood := { row := fnClassLeastUptoRow, standIns := [], harness := (true, "db9105289cec554a539286bd2710fa5e1f38fa277938e9fd0d911c2a5e36b2c2"), looks := false }, kinds := [], alts := [], laidByText := true, laidKinds := [.data, .data, .data], laidTests := true, laidLooks := .later }
def FnClassLeastUptoCardSaid : Prop := Claim7.holds Tryd.pinned (.plain (OpenSpec.upto fnClassLeastSpec)) fnClassLeastUptoCard

/-- THE SECOND FORM's CARD OF 'laws.FnMagic'. -/
def fnMagicUptoCard : Claim7 := { stood := { row := fnMagicUptoRow, standIns := [], harness := (true, "db9105289cec554a539286bd2710fa5e1f38fa277938e9fd0d911c2a5e36b2c2"), looks := false }, kinds := [], alts := [], laidByText := true, laidKinds := [.data, .data, .data], laidTests := true, laidLooks := .later }
def FnMagicUptoCardSaid : Prop := Claim7.holds Tryd.pinned (.plain (OpenSpec.upto fnMagicSpec)) fnMagicUptoCard
end Rows
end Go.Proofs.YtndcokbkocifpaaDoor
