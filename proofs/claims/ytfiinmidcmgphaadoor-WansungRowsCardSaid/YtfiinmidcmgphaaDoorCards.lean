/-
  DERIVED. GIVEN WITH THE SEED: THE CARDS: each row of YtfiinmidcmgphaaDoorRows.lean that lists a variable, with what it lists TIED to the program's text (the seventh form; the later family's looks); each row that meets fmt, with fmt's text TOLD by the authors' own Lean function (tested against real Go, not proved from fmt's source: count such statements apart). THE CARD IS WHAT COUNTS. Prove the row's statement (the work); the ties are given (YtfiinmidcmgphaaDoorTie.lean); close each card by the builder's one call (the guide's Derived/Test/ToyasCard.lean, 'card_holds'). Laid BY PROGRAM, IN A SANDBOX (cutbox-door.mjs). By AI agents, Wed Nov 11 2026. No macro, syntax, notation, axiom, sorry.
-/
import Derived.Test.YtfiinmidcmgphaaDoorRows
import GoSem.ClaimSeven
namespace Go.Proofs.YtfiinmidcmgphaaDoor
namespace Rows

/-- THE TIED CARD OF 'diacriticlaw07.WansungRanks'. -/
def wansungRanksCard : Claim7 := { stood := { row := wansungRanksRow, standIns := [], harness := (true, "f7bfc20c4b28758d5cc91f39e65ca1b29c543d68a2cb9f6dd10ed4c2dc48a499"), looks := false }, kinds := [], alts := [], laidByText := true, laidKinds := [.data, .data, .pinned], laidTests := true, laidLooks := .later }
def WansungRanksCardSaid : Prop := Claim7.holds Tryd.pinned (.plain (OpenSpec.ofChange wansungRanksSpec)) wansungRanksCard

/-- THE TIED CARD OF 'diacriticlaw07.WansungPlaces'. -/
def wansungPlacesCard : Claim7 := { stood := { row := wansungPlacesRow, standIns := [], harness := (true, "f7bfc20c4b28758d5cc91f39e65ca1b29c543d68a2cb9f6dd10ed4c2dc48a499"), looks := false }, kinds := [], alts := [], laidByText := true, laidKinds := [.data, .data, .pinned], laidTests := true, laidLooks := .later }
def WansungPlacesCardSaid : Prop := Claim7.holds Tryd.pinned (.plain (OpenSpec.ofChange wansungPlacesSpec)) wansungPlacesCard

/-- THE TIED CARD OF 'diacriticlaw07.WansungSigns'. -/
def wansungSignsCard : Claim7 := { stood := { row := wansungSignsRow, standIns := [], harness := (true, "f7bfc20c4b28758d5cc91f39e65ca1b29c543d68a2cb9f6dd10ed4c2dc48a499"), looks := false }, kinds := [], alts := [], laidByText := true, laidKinds := [.data, .data, .pinned], laidTests := true, laidLooks := .later }
def WansungSignsCardSaid : Prop := Claim7.holds Tryd.pinned (.plain (OpenSpec.ofChange wansungSignsSpec)) wansungSignsCard

/-- THE TIED CARD OF 'diacriticlaw07.WansungBytes'. -/
def wansungBytesCard : Claim7 := { stood := { row := wansungBytesRow, standIns := [], harness := (true, "f7bfc20c4b28758d5cc91f39e65ca1b29c543d68a2cb9f6dd10ed4c2dc48a499"), looks := false }, kinds := [], alts := [], laidByText := true, laidKinds := [.data, .data, .pinned], laidTests := true, laidLooks := .later }
def WansungBytesCardSaid : Prop := Claim7.holds Tryd.pinned (.plain (OpenSpec.ofChange wansungBytesSpec)) wansungBytesCard

/-- THE TIED CARD OF 'diacriticlaw07.WansungRows'. -/
def wansungRowsCard : Claim7 := { stood := { row := wansungRowsRow, standIns := [], harness := (true, "f7bfc20c4b28758d5cc91f39e65ca1b29c543d68a2cb9f6dd10ed4c2dc48a499"), looks := false }, kinds := [], alts := [], laidByText := true, laidKinds := [.data, .data, .pinned], laidTests := true, laidLooks := .later }
def WansungRowsCardSaid : Prop := Claim7.holds Tryd.pinned (.plain (OpenSpec.ofChange wansungRowsSpec)) wansungRowsCard

/-- THE SECOND FORM's CARD OF 'diacriticlaw07.WansungRanks'. -/
def wansungRanksUptoCard : Claim7 := { stood := { row := wansungRanksUptoRow, standIns := [], harness := (true, "f7bfc20c4b28758d5cc91f39e65ca1b29c543d68a2cb9f6dd10ed4c2dc48a499"), looks := false }, kinds := [], alts := [], laidByText := true, laidKinds := [.data, .data, .pinned], laidTests := true, laidLooks := .later }
def WansungRanksUptoCardSaid : Prop := Claim7.holds Tryd.pinned (.plain (OpenSpec.upto wansungRanksSpec)) wansungRanksUptoCard

/-- THE SECOND FORM's CARD OF 'diacriticlaw07.WansungPlaces'. -/
def wansungPlacesUptoCard : Claim7 := { stood := { row := wansungPlacesUptoRow, standIns := [], harness := (true, "f7bfc20c4b28758d5cc91f39e65ca1b29c543d68a2cb9f6dd10ed4c2dc48a499"), looks := false }, kinds := [], alts := [], laidByText := true, laidKinds := [.data, .data, .pinned], laidTests := true, laidLooks := .later }
def WansungPlacesUptoCardSaid : Prop := Claim7.holds Tryd.pinned (.plain (OpenSpec.upto wansungPlacesSpec)) wansungPlacesUptoCard

/-- THE SECOND FORM's CARD OF 'diacriticlaw07.WansungSigns'. -/
def wansungSignsUptoCard : Claim7 := { stood := { row := wansungSignsUptoRow, standIns := [], harness := (true, "f7bfc20c4b28758d5cc91f39e65ca1b29c543d68a2cb9f6dd10ed4c2dc48a499"), looks := false }, kinds := [], alts := [], laidByText := true, laidKinds := [.data, .data, .pinned], laidTests := true, laidLooks := .later }
def WansungSignsUptoCardSaid : Prop := Claim7.holds Tryd.pinned (.plain (OpenSpec.upto wansungSignsSpec)) wansungSignsUptoCard

/-- THE SECOND FORM's CARD OF 'diacriticlaw07.WansungBytes'. -/
def wansungBytesUptoCard : Claim7 := { stood := { row := wansungBytesUptoRow, standIns := [], harness := (true, "f7bfc20c4b28758d5cc91f39e65ca1b29c543d68a2cb9f6dd10ed4c2dc48a499"), looks := false }, kinds := [], alts := [], laidByText := true, laidKinds := [.data, .data, .pinned], laidTests := true, laidLooks := .later }
def WansungBytesUptoCardSaid : Prop := Claim7.holds Tryd.pinned (.plain (OpenSpec.upto wansungBytesSpec)) wansungBytesUptoCard

/-- THE SECOND FORM's CARD OF 'diacriticlaw07.WansungRows'. -/
def wansungRowsUptoCard : Claim7 := { stood := { row := wansungRowsUptoRow, standIns := [], harness := (true, "f7bfc20c4b28758d5cc91f39e65ca1b29c543d68a2cb9f6dd10ed4c2dc48a499"), looks := false }, kinds := [], alts := [], laidByText := true, laidKinds := [.data, .data, .pinned], laidTests := true, laidLooks := .later }
def WansungRowsUptoCardSaid : Prop := Claim7.holds Tryd.pinned (.plain (OpenSpec.upto wansungRowsSpec)) wansungRowsUptoCard
end Rows
end Go.Proofs.YtfiinmidcmgphaaDoor
