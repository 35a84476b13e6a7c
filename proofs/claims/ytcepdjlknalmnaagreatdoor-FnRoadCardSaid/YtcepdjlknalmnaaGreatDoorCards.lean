/-
  DERIVED. GIVEN WITH THE SEED: THE CARDS: each row of YtcepdjlknalmnaaGreatDoorRows.lean that lists a variable, with what it lists TIED to the program's text (the seventh form; the later family's looks); each row that meets fmt, with fmt's text TOLD by the authors' own Lean function (tested against real Go, not proved from fmt's source: count such statements apart). THE CARD IS WHAT COUNTS. Prove the row's statement (the work); the ties are given (YtcepdjlknalmnaaGreatDoorTie.lean); close each card by the builder's one call (the guide's Derived/Test/ToyasCard.lean, 'card_holds'). Laid BY PROGRAM, IN A SANDBOX (cutbox-door.mjs). By AI agents, Wed Nov 11 2026. No macro, syntax, notation, axiom, sorry.
-/
import Derived.Test.YtcepdjlknalmnaaGreatDoorRows
import GoSem.ClaimSeven
namespace Go.Proofs.YtcepdjlknalmnaaGreatDoor
namespace Rows

/-- THE TIED CARD OF 'laws.FnUnknown'. -/
def fnUnknownCard : Claim7 := { stood := { row := fnUnknownRow, standIns := [], harness := (true, "35c226d5caa8e75a31f268f1afab0a919013bee45ee36bbf191d48883ab93086"), looks := true }, kinds := [], alts := [], laidByText := true, laidKinds := [.data, .data, .data, .sentinel, .sentinel, .sentinel, .sentinel, .sentinel, .sentinel, .sentinel, .sentinel, .sentinel], laidTests := true, laidLooks := .later }
def FnUnknownCardSaid : Prop := Claim7.holds Tryz.pinned (.plain (OpenSpec.ofChange fnUnknownSpec)) fnUnknownCard

/-- THE TIED CARD OF 'laws.FnUnmarshal'. -/
def fnUnmarshalCard : Claim7 := { stood := { row := fnUnmarshalRow, standIns := [], harness := (true, "35c226d5caa8e75a31f268f1afab0a919013bee45ee36bbf191d48883ab93086"), looks := true }, kinds := [], alts := [], laidByText := true, laidKinds := [.data, .data, .data, .sentinel, .sentinel, .sentinel, .sentinel, .sentinel, .sentinel, .sentinel, .sentinel, .sentinel], laidTests := true, laidLooks := .later }
def FnUnmarshalCardSaid : Prop := Claim7.holds Tryz.pinned (.plain (OpenSpec.ofChange fnUnmarshalSpec)) fnUnmarshalCard

/-- THE TIED CARD OF 'laws.FnRoad'. -/
def fnRoadCard : Claim7 := { stood := { row := fnRoadRow, standIns := [], harness := (true, "35c226d5caa8e75a31f268f1afab0a919013bee45ee36bbf191d48883ab93086"), looks := true }, kinds := [], alts := [], laidByText := true, laidKinds := [.data, .data, .data, .sentinel, .sentinel, .sentinel, .sentinel, .sentinel, .sentinel, .sentinel, .sentinel, .sentinel], laidTests := true, laidLooks := .later }
def FnRoadCardSaid : Prop := Claim7.holds Tryz.pinned (.plain (OpenSpec.ofChange fnRoadSpec)) fnRoadCard

/-- THE TIED CARD OF 'laws.FnMarshal'. -/
def fnMarshalCard : Claim7 := { stood := { row := fnMarshalRow, standIns := [], harness := (true, "35c226d5caa8e75a31f268f1afab0a919013bee45ee36bbf191d48883ab93086"), looks := true }, kinds := [], alts := [], laidByText := true, laidKinds := [.data, .data, .data, .sentinel, .sentinel, .sentinel, .sentinel, .sentinel, .sentinel, .sentinel, .sentinel, .sentinel], laidTests := true, laidLooks := .later }
def FnMarshalCardSaid : Prop := Claim7.holds Tryz.pinned (.plain (OpenSpec.ofChange fnMarshalSpec)) fnMarshalCard

/-- THE TIED CARD OF 'laws.FnFits'. -/
def fnFitsCard : Claim7 := { stood := { row := fnFitsRow, standIns := [], harness := (true, "35c226d5caa8e75a31f268f1afab0a919013bee45ee36bbf191d48883ab93086"), looks := true }, kinds := [], alts := [], laidByText := true, laidKinds := [.data, .data, .data, .data, .sentinel, .sentinel, .sentinel, .listed, .data, .sentinel, .sentinel, .sentinel, .sentinel, .sentinel, .sentinel, .pinned], laidTests := true, laidLooks := .later }
def FnFitsCardSaid : Prop := Claim7.holds Tryz.pinned (.plain (OpenSpec.ofChange fnFitsSpec)) fnFitsCard

/-- THE SECOND FORM's CARD OF 'laws.FnUnknown'. -/
def fnUnknownUptoCard : Claim7 := { stood := { row := fnUnknownUptoRow, standIns := [], harness := (true, "35c226d5caa8e75a31f268f1afab0a919013bee45ee36bbf191d48883ab93086"), looks := true }, kinds := [], alts := [], laidByText := true, laidKinds := [.data, .data, .data, .sentinel, .sentinel, .sentinel, .sentinel, .sentinel, .sentinel, .sentinel, .sentinel, .sentinel], laidTests := true, laidLooks := .later }
def FnUnknownUptoCardSaid : Prop := Claim7.holds Tryz.pinned (.plain (OpenSpec.upto fnUnknownSpec)) fnUnknownUptoCard

/-- THE SECOND FORM's CARD OF 'laws.FnUnmarshal'. -/
def fnUnmarshalUptoCard : Claim7 := { stood := { row := fnUnmarshalUptoRow, standIns := [], harness := (true, "35c226d5caa8e75a31f268f1afab0a919013bee45ee36bbf191d48883ab93086"), looks := true }, kinds := [], alts := [], laidByText := true, laidKinds := [.data, .data, .data, .sentinel, .sentinel, .sentinel, .sentinel, .sentinel, .sentinel, .sentinel, .sentinel, .sentinel], laidTests := true, laidLooks := .later }
def FnUnmarshalUptoCardSaid : Prop := Claim7.holds Tryz.pinned (.plain (OpenSpec.upto fnUnmarshalSpec)) fnUnmarshalUptoCard

/-- THE SECOND FORM's CARD OF 'laws.FnRoad'. -/
def fnRoadUptoCard : Claim7 := { stood := { row := fnRoadUptoRow, standIns := [], harness := (true, "35c226d5caa8e75a31f268f1afab0a919013bee45ee36bbf191d48883ab93086"), looks := true }, kinds := [], alts := [], laidByText := true, laidKinds := [.data, .data, .data, .sentinel, .sentinel, .sentinel, .sentinel, .sentinel, .sentinel, .sentinel, .sentinel, .sentinel], laidTests := true, laidLooks := .later }
def FnRoadUptoCardSaid : Prop := Claim7.holds Tryz.pinned (.plain (OpenSpec.upto fnRoadSpec)) fnRoadUptoCard

/-- THE SECOND FORM's CARD OF 'laws.FnMarshal'. -/
def fnMarshalUptoCard : Claim7 := { stood := { row := fnMarshalUptoRow, standIns := [], harness := (true, "35c226d5caa8e75a31f268f1afab0a919013bee45ee36bbf191d48883ab93086"), looks := true }, kinds := [], alts := [], laidByText := true, laidKinds := [.data, .data, .data, .sentinel, .sentinel, .sentinel, .sentinel, .sentinel, .sentinel, .sentinel, .sentinel, .sentinel], laidTests := true, laidLooks := .later }
def FnMarshalUptoCardSaid : Prop := Claim7.holds Tryz.pinned (.plain (OpenSpec.upto fnMarshalSpec)) fnMarshalUptoCard

/-- THE SECOND FORM's CARD OF 'laws.FnFits'. -/
def fnFitsUptoCard : Claim7 := { stood := { row := fnFitsUptoRow, standIns := [], harness := (true, "35c226d5caa8e75a31f268f1afab0a919013bee45ee36bbf191d48883ab93086"), looks := true }, kinds := [], alts := [], laidByText := true, laidKinds := [.data, .data, .data, .data, .sentinel, .sentinel, .sentinel, .listed, .data, .sentinel, .sentinel, .sentinel, .sentinel, .sentinel, .sentinel, .pinned], laidTests := true, laidLooks := .later }
def FnFitsUptoCardSaid : Prop := Claim7.holds Tryz.pinned (.plain (OpenSpec.upto fnFitsSpec)) fnFitsUptoCard
end Rows
end Go.Proofs.YtcepdjlknalmnaaGreatDoor
