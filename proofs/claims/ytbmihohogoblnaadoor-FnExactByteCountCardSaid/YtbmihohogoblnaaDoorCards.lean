/-
  DERIVED. GIVEN WITH THE SEED: THE CARDS: each row of YtbmihohogoblnaaDoorRows.lean that lists a variable, with what it lists TIED to the program's text (the seventh form; the later family's looks); each row that meets fmt, with fmt's text TOLD by the authors' own Lean function (tested against real Go, not proved from fmt's source: count such statements apart). THE CARD IS WHAT COUNTS. Prove the row's statement (the work); the ties are given (YtbmihohogoblnaaDoorTie.lean); close each card by the builder's one call (the guide's Derived/Test/ToyasCard.lean, 'card_holds'). Laid BY PROGRAM, IN A SANDBOX (cutbox-door.mjs). By AI agents, Wed Nov 11 2026. No macro, syntax, notation, axiom, sorry.
-/
import Derived.Test.YtbmihohogoblnaaDoorRows
import GoSem.ClaimSeven
namespace Go.Proofs.YtbmihohogoblnaaDoor
namespace Rows

/-- THE TIED CARD OF 'laws.FnByteCountB'. -/
def fnByteCountBCard : Claim7 := { stood := { row := fnByteCountBRow, standIns := [], harness := (true, "da50da1a4a30446e4db9380c54a71368960153df4ba9b645d663f325c7f11163"), looks := true }, kinds := [], alts := [], laidByText := true, laidKinds := [.data, .data, .data, .sentinel, .sentinel], laidTests := true, laidLooks := .later }
def FnByteCountBCardSaid : Prop := Claim7.holds Tryd.pinned (.plain (OpenSpec.ofChange fnByteCountBSpec)) fnByteCountBCard

/-- THE TIED CARD OF 'laws.FnByteCountUnits'. -/
def fnByteCountUnitsCard : Claim7 := { stood := { row := fnByteCountUnitsRow, standIns := [], harness := (true, "da50da1a4a30446e4db9380c54a71368960153df4ba9b645d663f325c7f11163"), looks := true }, kinds := [], alts := [], laidByText := true, laidKinds := [.data, .data, .data, .sentinel, .sentinel], laidTests := true, laidLooks := .later }
def FnByteCountUnitsCardSaid : Prop := Claim7.holds Tryd.pinned (.plain (OpenSpec.ofChange fnByteCountUnitsSpec)) fnByteCountUnitsCard

/-- THE TIED CARD OF 'laws.FnExactByteCount'. -/
def fnExactByteCountCard : Claim7 := { stood := { row := fnExactByteCountRow, standIns := [], harness := (true, "da50da1a4a30446e4db9380c54a71368960153df4ba9b645d663f325c7f11163"), looks := true }, kinds := [], alts := [], laidByText := true, laidKinds := [.data, .data, .data, .sentinel, .sentinel], laidTests := true, laidLooks := .later }
def FnExactByteCountCardSaid : Prop := Claim7.holds Tryd.pinned (.plain (OpenSpec.ofChange fnExactByteCountSpec)) fnExactByteCountCard

/-- THE SECOND FORM's CARD OF 'laws.FnByteCountB'. -/
def fnByteCountBUptoCard : Claim7 := { stood := { row := fnByteCountBUptoRow, standIns := [], harness := (true, "da50da1a4a30446e4db9380c54a71368960153df4ba9b645d663f325c7f11163"), looks := true }, kinds := [], alts := [], laidByText := true, laidKinds := [.data, .data, .data, .sentinel, .sentinel], laidTests := true, laidLooks := .later }
def FnByteCountBUptoCardSaid : Prop := Claim7.holds Tryd.pinned (.plain (OpenSpec.upto fnByteCountBSpec)) fnByteCountBUptoCard

/-- THE SECOND FORM's CARD OF 'laws.FnByteCountUnits'. -/
def fnByteCountUnitsUptoCard : Claim7 := { stood := { row := fnByteCountUnitsUptoRow, standIns := [], harness := (true, "da50da1a4a30446e4db9380c54a71368960153df4ba9b645d663f325c7f11163"), looks := true }, kinds := [], alts := [], laidByText := true, laidKinds := [.data, .data, .data, .sentinel, .sentinel], laidTests := true, laidLooks := .later }
def FnByteCountUnitsUptoCardSaid : Prop := Claim7.holds Tryd.pinned (.plain (OpenSpec.upto fnByteCountUnitsSpec)) fnByteCountUnitsUptoCard

/-- THE SECOND FORM's CARD OF 'laws.FnExactByteCount'. -/
def fnExactByteCountUptoCard : Claim7 := { stood := { row := fnExactByteCountUptoRow, standIns := [], harness := (true, "da50da1a4a30446e4db9380c54a71368960153df4ba9b645d663f325c7f11163"), looks := true }, kinds := [], alts := [], laidByText := true, laidKinds := [.data, .data, .data, .sentinel, .sentinel], laidTests := true, laidLooks := .later }
def FnExactByteCountUptoCardSaid : Prop := Claim7.holds Tryd.pinned (.plain (OpenSpec.upto fnExactByteCountSpec)) fnExactByteCountUptoCard
end Rows
end Go.Proofs.YtbmihohogoblnaaDoor
