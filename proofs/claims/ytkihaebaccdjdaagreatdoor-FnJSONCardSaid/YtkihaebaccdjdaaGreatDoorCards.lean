/-
  DERIVED. GIVEN WITH THE SEED: THE CARDS: each row of YtkihaebaccdjdaaGreatDoorRows.lean that lists a variable, with what it lists TIED to the program's text (the seventh form; the later family's looks); each row that meets fmt, with fmt's text TOLD by the authors' own Lean function (tested against real Go, not proved from fmt's source: count such statements apart). THE CARD IS WHAT COUNTS. Prove the row's statement (the work); the ties are given (YtkihaebaccdjdaaGreatDoorTie.lean); close each card by the builder's one call (the guide's Derived/Test/ToyasCard.lean, 'card_holds'). Laid BY PROGRAM, IN A SANDBOX (cutbox-door.mjs). By AI agents, Wed Nov 11 2026. No macro, syntax, notation, axiom, sorry.
-/
import Derived.Test.YtkihaebaccdjdaaGreatDoorRows
import GoSem.ClaimSeven
namespace Go.Proofs.YtkihaebaccdjdaaGreatDoor
namespace Rows

/-- THE TIED CARD OF 'laws.FnBlobs'. -/
def fnBlobsCard : Claim7 := { stood := { row := fnBlobsRow, standIns := [], harness := (true, "619bc3bdfde2dd02d22a6b5bf61c289ead08eb6082488db3821db8bf393459c5"), looks := true }, kinds := [], alts := [], laidByText := true, laidKinds := [.data, .data, .data, .data, .data, .pinned], laidTests := true, laidLooks := .later }
def FnBlobsCardSaid : Prop := Claim7.holds Tryz.pinned (.plain (OpenSpec.ofChange fnBlobsSpec)) fnBlobsCard

/-- THE TIED CARD OF 'laws.FnForm'. -/
def fnFormCard : Claim7 := { stood := { row := fnFormRow, standIns := [], harness := (true, "619bc3bdfde2dd02d22a6b5bf61c289ead08eb6082488db3821db8bf393459c5"), looks := true }, kinds := [], alts := [], laidByText := true, laidKinds := [.data, .data, .data, .data, .data, .pinned], laidTests := true, laidLooks := .later }
def FnFormCardSaid : Prop := Claim7.holds Tryz.pinned (.plain (OpenSpec.ofChange fnFormSpec)) fnFormCard

/-- THE TIED CARD OF 'laws.FnJSON'. -/
def fnJSONCard : Claim7 := { stood := { row := fnJSONRow, standIns := [], harness := (true, "619bc3bdfde2dd02d22a6b5bf61c289ead08eb6082488db3821db8bf393459c5"), looks := true }, kinds := [], alts := [], laidByText := true, laidKinds := [.data, .data, .data, .data, .data, .pinned], laidTests := true, laidLooks := .later }
def FnJSONCardSaid : Prop := Claim7.holds Tryz.pinned (.plain (OpenSpec.ofChange fnJSONSpec)) fnJSONCard

/-- THE TIED CARD OF 'laws.FnJSONText'. -/
def fnJSONTextCard : Claim7 := { stood := { row := fnJSONTextRow, standIns := [], harness := (true, "619bc3bdfde2dd02d22a6b5bf61c289ead08eb6082488db3821db8bf393459c5"), looks := true }, kinds := [], alts := [], laidByText := true, laidKinds := [.data, .data, .data, .data, .data, .pinned], laidTests := true, laidLooks := .later }
def FnJSONTextCardSaid : Prop := Claim7.holds Tryz.pinned (.plain (OpenSpec.ofChange fnJSONTextSpec)) fnJSONTextCard

/-- THE TIED CARD OF 'laws.FnXML'. -/
def fnXMLCard : Claim7 := { stood := { row := fnXMLRow, standIns := [], harness := (true, "619bc3bdfde2dd02d22a6b5bf61c289ead08eb6082488db3821db8bf393459c5"), looks := true }, kinds := [], alts := [], laidByText := true, laidKinds := [.data, .data, .data, .data, .data, .pinned], laidTests := true, laidLooks := .later }
def FnXMLCardSaid : Prop := Claim7.holds Tryz.pinned (.plain (OpenSpec.ofChange fnXMLSpec)) fnXMLCard

/-- THE TIED CARD OF 'laws.FnXMLText'. -/
def fnXMLTextCard : Claim7 := { stood := { row := fnXMLTextRow, standIns := [], harness := (true, "619bc3bdfde2dd02d22a6b5bf61c289ead08eb6082488db3821db8bf393459c5"), looks := true }, kinds := [], alts := [], laidByText := true, laidKinds := [.data, .data, .data, .data, .data, .pinned], laidTests := true, laidLooks := .later }
def FnXMLTextCardSaid : Prop := Claim7.holds Tryz.pinned (.plain (OpenSpec.ofChange fnXMLTextSpec)) fnXMLTextCard

/-- THE SECOND FORM's CARD OF 'laws.FnBlobs'. -/
def fnBlobsUptoCard : Claim7 := { stood := { row := fnBlobsUptoRow, standIns := [], harness := (true, "619bc3bdfde2dd02d22a6b5bf61c289ead08eb6082488db3821db8bf393459c5"), looks := true }, kinds := [], alts := [], laidByText := true, laidKinds := [.data, .data, .data, .data, .data, .pinned], laidTests := true, laidLooks := .later }
def FnBlobsUptoCardSaid : Prop := Claim7.holds Tryz.pinned (.plain (OpenSpec.upto fnBlobsSpec)) fnBlobsUptoCard

/-- THE SECOND FORM's CARD OF 'laws.FnForm'. -/
def fnFormUptoCard : Claim7 := { stood := { row := fnFormUptoRow, standIns := [], harness := (true, "619bc3bdfde2dd02d22a6b5bf61c289ead08eb6082488db3821db8bf393459c5"), looks := true }, kinds := [], alts := [], laidByText := true, laidKinds := [.data, .data, .data, .data, .data, .pinned], laidTests := true, laidLooks := .later }
def FnFormUptoCardSaid : Prop := Claim7.holds Tryz.pinned (.plain (OpenSpec.upto fnFormSpec)) fnFormUptoCard

/-- THE SECOND FORM's CARD OF 'laws.FnJSON'. -/
def fnJSONUptoCard : Claim7 := { stood := { row := fnJSONUptoRow, standIns := [], harness := (true, "619bc3bdfde2dd02d22a6b5bf61c289ead08eb6082488db3821db8bf393459c5"), looks := true }, kinds := [], alts := [], laidByText := true, laidKinds := [.data, .data, .data, .data, .data, .pinned], laidTests := true, laidLooks := .later }
def FnJSONUptoCardSaid : Prop := Claim7.holds Tryz.pinned (.plain (OpenSpec.upto fnJSONSpec)) fnJSONUptoCard

/-- THE SECOND FORM's CARD OF 'laws.FnJSONText'. -/
def fnJSONTextUptoCard : Claim7 := { stood := { row := fnJSONTextUptoRow, standIns := [], harness := (true, "619bc3bdfde2dd02d22a6b5bf61c289ead08eb6082488db3821db8bf393459c5"), looks := true }, kinds := [], alts := [], laidByText := true, laidKinds := [.data, .data, .data, .data, .data, .pinned], laidTests := true, laidLooks := .later }
def FnJSONTextUptoCardSaid : Prop := Claim7.holds Tryz.pinned (.plain (OpenSpec.upto fnJSONTextSpec)) fnJSONTextUptoCard

/-- THE SECOND FORM's CARD OF 'laws.FnXML'. -/
def fnXMLUptoCard : Claim7 := { stood := { row := fnXMLUptoRow, standIns := [], harness := (true, "619bc3bdfde2dd02d22a6b5bf61c289ead08eb6082488db3821db8bf393459c5"), looks := true }, kinds := [], alts := [], laidByText := true, laidKinds := [.data, .data, .data, .data, .data, .pinned], laidTests := true, laidLooks := .later }
def FnXMLUptoCardSaid : Prop := Claim7.holds Tryz.pinned (.plain (OpenSpec.upto fnXMLSpec)) fnXMLUptoCard

/-- THE SECOND FORM's CARD OF 'laws.FnXMLText'. -/
def fnXMLTextUptoCard : Claim7 := { stood := { row := fnXMLTextUptoRow, standIns := [], harness := (true, "619bc3bdfde2dd02d22a6b5bf61c289ead08eb6082488db3821db8bf393459c5"), looks := true }, kinds := [], alts := [], laidByText := true, laidKinds := [.data, .data, .data, .data, .data, .pinned], laidTests := true, laidLooks := .later }
def FnXMLTextUptoCardSaid : Prop := Claim7.holds Tryz.pinned (.plain (OpenSpec.upto fnXMLTextSpec)) fnXMLTextUptoCard
end Rows
end Go.Proofs.YtkihaebaccdjdaaGreatDoor
