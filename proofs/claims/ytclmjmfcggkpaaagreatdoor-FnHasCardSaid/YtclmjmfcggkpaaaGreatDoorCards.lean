/-
  DERIVED. GIVEN WITH THE SEED: THE CARDS: each row of YtclmjmfcggkpaaaGreatDoorRows.lean that lists a variable, with what it lists TIED to the program's text (the seventh form; the later family's looks); each row that meets fmt, with fmt's text TOLD by the authors' own Lean function (tested against real Go, not proved from fmt's source: count such statements apart). THE CARD IS WHAT COUNTS. Prove the row's statement (the work); the ties are given (YtclmjmfcggkpaaaGreatDoorTie.lean); close each card by the builder's one call (the guide's Derived/Test/ToyasCard.lean, 'card_holds'). Laid BY PROGRAM, IN A SANDBOX (cutbox-door.mjs). By AI agents, Wed Nov 11 2026. No macro, syntax, notation, axiom, sorry.
-/
import Derived.Test.YtclmjmfcggkpaaaGreatDoorRows
import GoSem.ClaimSeven
namespace Go.Proofs.YtclmjmfcggkpaaaGreatDoor
namespace Rows

/-- THE TIED CARD OF 'laws.FnBoundTogether'. -/
def fnBoundTogetherCard : Claim7 := { stood := { row := fnBoundTogetherRow, standIns := [], harness := (true, "6bb103c7c22474a97455d8bf40a75255e343f71984fac142e111aee8d667fbaa"), looks := true }, kinds := [], alts := [], laidByText := true, laidKinds := [.data, .data, .data, .data, .sentinel, .sentinel, .listed, .data, .data, .pinned], laidTests := true, laidLooks := .later }
def FnBoundTogetherCardSaid : Prop := Claim7.holds Tryz.pinned (.plain (OpenSpec.ofChange fnBoundTogetherSpec)) fnBoundTogetherCard

/-- THE TIED CARD OF 'laws.FnContentLength'. -/
def fnContentLengthCard : Claim7 := { stood := { row := fnContentLengthRow, standIns := [], harness := (true, "6bb103c7c22474a97455d8bf40a75255e343f71984fac142e111aee8d667fbaa"), looks := true }, kinds := [], alts := [], laidByText := true, laidKinds := [.data, .data, .data, .data, .sentinel, .sentinel, .listed, .data, .data, .pinned], laidTests := true, laidLooks := .later }
def FnContentLengthCardSaid : Prop := Claim7.holds Tryz.pinned (.plain (OpenSpec.ofChange fnContentLengthSpec)) fnContentLengthCard

/-- THE TIED CARD OF 'laws.FnEscapePath'. -/
def fnEscapePathCard : Claim7 := { stood := { row := fnEscapePathRow, standIns := [], harness := (true, "6bb103c7c22474a97455d8bf40a75255e343f71984fac142e111aee8d667fbaa"), looks := true }, kinds := [], alts := [], laidByText := true, laidKinds := [.data, .data, .data, .data, .sentinel, .sentinel, .listed, .data, .data, .pinned], laidTests := true, laidLooks := .later }
def FnEscapePathCardSaid : Prop := Claim7.holds Tryz.pinned (.plain (OpenSpec.ofChange fnEscapePathSpec)) fnEscapePathCard

/-- THE TIED CARD OF 'laws.FnHeaders'. -/
def fnHeadersCard : Claim7 := { stood := { row := fnHeadersRow, standIns := [], harness := (true, "6bb103c7c22474a97455d8bf40a75255e343f71984fac142e111aee8d667fbaa"), looks := true }, kinds := [], alts := [], laidByText := true, laidKinds := [.data, .data, .data, .data, .sentinel, .sentinel, .listed, .data, .data, .pinned], laidTests := true, laidLooks := .later }
def FnHeadersCardSaid : Prop := Claim7.holds Tryz.pinned (.plain (OpenSpec.ofChange fnHeadersSpec)) fnHeadersCard

/-- THE TIED CARD OF 'laws.FnLabels'. -/
def fnLabelsCard : Claim7 := { stood := { row := fnLabelsRow, standIns := [], harness := (true, "6bb103c7c22474a97455d8bf40a75255e343f71984fac142e111aee8d667fbaa"), looks := true }, kinds := [], alts := [], laidByText := true, laidKinds := [.data, .data, .data, .data, .sentinel, .sentinel, .listed, .data, .data, .pinned], laidTests := true, laidLooks := .later }
def FnLabelsCardSaid : Prop := Claim7.holds Tryz.pinned (.plain (OpenSpec.ofChange fnLabelsSpec)) fnLabelsCard

/-- THE TIED CARD OF 'laws.FnErrorCode'. -/
def fnErrorCodeCard : Claim7 := { stood := { row := fnErrorCodeRow, standIns := [], harness := (true, "6bb103c7c22474a97455d8bf40a75255e343f71984fac142e111aee8d667fbaa"), looks := true }, kinds := [], alts := [], laidByText := true, laidKinds := [.data, .data, .data, .data, .sentinel, .sentinel, .listed, .data, .data, .pinned], laidTests := true, laidLooks := .later }
def FnErrorCodeCardSaid : Prop := Claim7.holds Tryz.pinned (.plain (OpenSpec.ofChange fnErrorCodeSpec)) fnErrorCodeCard

/-- THE TIED CARD OF 'laws.FnSplitURI'. -/
def fnSplitURICard : Claim7 := { stood := { row := fnSplitURIRow, standIns := [], harness := (true, "6bb103c7c22474a97455d8bf40a75255e343f71984fac142e111aee8d667fbaa"), looks := true }, kinds := [], alts := [], laidByText := true, laidKinds := [.data, .data, .data, .data, .sentinel, .sentinel, .listed, .data, .data, .pinned], laidTests := true, laidLooks := .later }
def FnSplitURICardSaid : Prop := Claim7.holds Tryz.pinned (.plain (OpenSpec.ofChange fnSplitURISpec)) fnSplitURICard

/-- THE TIED CARD OF 'laws.FnHas'. -/
def fnHasCard : Claim7 := { stood := { row := fnHasRow, standIns := [], harness := (true, "6bb103c7c22474a97455d8bf40a75255e343f71984fac142e111aee8d667fbaa"), looks := true }, kinds := [], alts := [], laidByText := true, laidKinds := [.data, .data, .data, .data, .sentinel, .sentinel, .listed, .data, .data, .pinned], laidTests := true, laidLooks := .later }
def FnHasCardSaid : Prop := Claim7.holds Tryz.pinned (.plain (OpenSpec.ofChange fnHasSpec)) fnHasCard

/-- THE SECOND FORM's CARD OF 'laws.FnBoundTogether'. -/
def fnBoundTogetherUptoCard : Claim7 := { stood := { row := fnBoundTogetherUptoRow, standIns := [], harness := (true, "6bb103c7c22474a97455d8bf40a75255e343f71984fac142e111aee8d667fbaa"), looks := true }, kinds := [], alts := [], laidByText := true, laidKinds := [.data, .data, .data, .data, .sentinel, .sentinel, .listed, .data, .data, .pinned], laidTests := true, laidLooks := .later }
def FnBoundTogetherUptoCardSaid : Prop := Claim7.holds Tryz.pinned (.plain (OpenSpec.upto fnBoundTogetherSpec)) fnBoundTogetherUptoCard

/-- THE SECOND FORM's CARD OF 'laws.FnContentLength'. -/
def fnContentLengthUptoCard : Claim7 := { stood := { row := fnContentLengthUptoRow, standIns := [], harness := (true, "6bb103c7c22474a97455d8bf40a75255e343f71984fac142e111aee8d667fbaa"), looks := true }, kinds := [], alts := [], laidByText := true, laidKinds := [.data, .data, .data, .data, .sentinel, .sentinel, .listed, .data, .data, .pinned], laidTests := true, laidLooks := .later }
def FnContentLengthUptoCardSaid : Prop := Claim7.holds Tryz.pinned (.plain (OpenSpec.upto fnContentLengthSpec)) fnContentLengthUptoCard

/-- THE SECOND FORM's CARD OF 'laws.FnEscapePath'. -/
def fnEscapePathUptoCard : Claim7 := { stood := { row := fnEscapePathUptoRow, standIns := [], harness := (true, "6bb103c7c22474a97455d8bf40a75255e343f71984fac142e111aee8d667fbaa"), looks := true }, kinds := [], alts := [], laidByText := true, laidKinds := [.data, .data, .data, .data, .sentinel, .sentinel, .listed, .data, .data, .pinned], laidTests := true, laidLooks := .later }
def FnEscapePathUptoCardSaid : Prop := Claim7.holds Tryz.pinned (.plain (OpenSpec.upto fnEscapePathSpec)) fnEscapePathUptoCard

/-- THE SECOND FORM's CARD OF 'laws.FnHeaders'. -/
def fnHeadersUptoCard : Claim7 := { stood := { row := fnHeadersUptoRow, standIns := [], harness := (true, "6bb103c7c22474a97455d8bf40a75255e343f71984fac142e111aee8d667fbaa"), looks := true }, kinds := [], alts := [], laidByText := true, laidKinds := [.data, .data, .data, .data, .sentinel, .sentinel, .listed, .data, .data, .pinned], laidTests := true, laidLooks := .later }
def FnHeadersUptoCardSaid : Prop := Claim7.holds Tryz.pinned (.plain (OpenSpec.upto fnHeadersSpec)) fnHeadersUptoCard

/-- THE SECOND FORM's CARD OF 'laws.FnLabels'. -/
def fnLabelsUptoCard : Claim7 := { stood := { row := fnLabelsUptoRow, standIns := [], harness := (true, "6bb103c7c22474a97455d8bf40a75255e343f71984fac142e111aee8d667fbaa"), looks := true }, kinds := [], alts := [], laidByText := true, laidKinds := [.data, .data, .data, .data, .sentinel, .sentinel, .listed, .data, .data, .pinned], laidTests := true, laidLooks := .later }
def FnLabelsUptoCardSaid : Prop := Claim7.holds Tryz.pinned (.plain (OpenSpec.upto fnLabelsSpec)) fnLabelsUptoCard

/-- THE SECOND FORM's CARD OF 'laws.FnErrorCode'. -/
def fnErrorCodeUptoCard : Claim7 := { stood := { row := fnErrorCodeUptoRow, standIns := [], harness := (true, "6bb103c7c22474a97455d8bf40a75255e343f71984fac142e111aee8d667fbaa"), looks := true }, kinds := [], alts := [], laidByText := true, laidKinds := [.data, .data, .data, .data, .sentinel, .sentinel, .listed, .data, .data, .pinned], laidTests := true, laidLooks := .later }
def FnErrorCodeUptoCardSaid : Prop := Claim7.holds Tryz.pinned (.plain (OpenSpec.upto fnErrorCodeSpec)) fnErrorCodeUptoCard

/-- THE SECOND FORM's CARD OF 'laws.FnSplitURI'. -/
def fnSplitURIUptoCard : Claim7 := { stood := { row := fnSplitURIUptoRow, standIns := [], harness := (true, "6bb103c7c22474a97455d8bf40a75255e343f71984fac142e111aee8d667fbaa"), looks := true }, kinds := [], alts := [], laidByText := true, laidKinds := [.data, .data, .data, .data, .sentinel, .sentinel, .listed, .data, .data, .pinned], laidTests := true, laidLooks := .later }
def FnSplitURIUptoCardSaid : Prop := Claim7.holds Tryz.pinned (.plain (OpenSpec.upto fnSplitURISpec)) fnSplitURIUptoCard

/-- THE SECOND FORM's CARD OF 'laws.FnHas'. -/
def fnHasUptoCard : Claim7 := { stood := { row := fnHasUptoRow, standIns := [], harness := (true, "6bb103c7c22474a97455d8bf40a75255e343f71984fac142e111aee8d667fbaa"), looks := true }, kinds := [], alts := [], laidByText := true, laidKinds := [.data, .data, .data, .data, .sentinel, .sentinel, .listed, .data, .data, .pinned], laidTests := true, laidLooks := .later }
def FnHasUptoCardSaid : Prop := Claim7.holds Tryz.pinned (.plain (OpenSpec.upto fnHasSpec)) fnHasUptoCard
end Rows
end Go.Proofs.YtclmjmfcggkpaaaGreatDoor
