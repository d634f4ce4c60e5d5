/-
  DERIVED. GIVEN WITH THE SEED: THE CARDS: each row of YtcbmfimafiolaaaDoorRows.lean that lists a variable, with what it lists TIED to the program's text (the seventh form; the later family's looks); each row that meets fmt, with fmt's text TOLD by the authors' own Lean function (tested against real Go, not proved from fmt's source: count such statements apart). THE CARD IS WHAT COUNTS. Prove the row's statement (the work); the ties are given (YtcbmfimafiolaaaDoorTie.lean); close each card by the builder's one call (the guide's Derived/Test/ToyasCard.lean, 'card_holds'). Laid BY PROGRAM, IN A SANDBOX (cutbox-door.mjs). By AI agents, Wed Nov 11 2026. No macro, syntax, notation, axiom, sorry.
-/
import Derived.Test.YtcbmfimafiolaaaDoorRows
import GoSem.ClaimSeven
namespace Go.Proofs.YtcbmfimafiolaaaDoor
namespace Rows

/-- THE TIED CARD OF 'laws.FnEscape'. -/
def fnEscapeCard : Claim7 := { stood := { row := fnEscapeRow, standIns := [], harness := (true, "bbf6c24d14299f2acc7fb56eb11caf5f2a5a7dfd9ea22b749d5c15cf69548846"), looks := false }, kinds := [], alts := [], laidByText := true, laidKinds := [.data], laidTests := true, laidLooks := .later }
def FnEscapeCardSaid : Prop := Claim7.holds Tryd.pinned (.plain (OpenSpec.ofChange fnEscapeSpec)) fnEscapeCard

/-- THE TIED CARD OF 'laws.FnPathUnescape'. -/
def fnPathUnescapeCard : Claim7 := { stood := { row := fnPathUnescapeRow, standIns := [], harness := (true, "bbf6c24d14299f2acc7fb56eb11caf5f2a5a7dfd9ea22b749d5c15cf69548846"), looks := false }, kinds := [], alts := [], laidByText := true, laidKinds := [.data], laidTests := true, laidLooks := .later }
def FnPathUnescapeCardSaid : Prop := Claim7.holds Tryd.pinned (.plain (OpenSpec.ofChange fnPathUnescapeSpec)) fnPathUnescapeCard

/-- THE TIED CARD OF 'laws.FnQueryUnescape'. -/
def fnQueryUnescapeCard : Claim7 := { stood := { row := fnQueryUnescapeRow, standIns := [], harness := (true, "bbf6c24d14299f2acc7fb56eb11caf5f2a5a7dfd9ea22b749d5c15cf69548846"), looks := false }, kinds := [], alts := [], laidByText := true, laidKinds := [.data], laidTests := true, laidLooks := .later }
def FnQueryUnescapeCardSaid : Prop := Claim7.holds Tryd.pinned (.plain (OpenSpec.ofChange fnQueryUnescapeSpec)) fnQueryUnescapeCard

/-- THE TIED CARD OF 'laws.FnPathEscape'. -/
def fnPathEscapeCard : Claim7 := { stood := { row := fnPathEscapeRow, standIns := [], harness := (true, "bbf6c24d14299f2acc7fb56eb11caf5f2a5a7dfd9ea22b749d5c15cf69548846"), looks := false }, kinds := [], alts := [], laidByText := true, laidKinds := [.data], laidTests := true, laidLooks := .later }
def FnPathEscapeCardSaid : Prop := Claim7.holds Tryd.pinned (.plain (OpenSpec.ofChange fnPathEscapeSpec)) fnPathEscapeCard

/-- THE TIED CARD OF 'laws.FnQueryEscape'. -/
def fnQueryEscapeCard : Claim7 := { stood := { row := fnQueryEscapeRow, standIns := [], harness := (true, "bbf6c24d14299f2acc7fb56eb11caf5f2a5a7dfd9ea22b749d5c15cf69548846"), looks := false }, kinds := [], alts := [], laidByText := true, laidKinds := [.data], laidTests := true, laidLooks := .later }
def FnQueryEscapeCardSaid : Prop := Claim7.holds Tryd.pinned (.plain (OpenSpec.ofChange fnQueryEscapeSpec)) fnQueryEscapeCard

/-- THE TIED CARD OF 'laws.FnEscapedPath'. -/
def fnEscapedPathCard : Claim7 := { stood := { row := fnEscapedPathRow, standIns := [], harness := (true, "bbf6c24d14299f2acc7fb56eb11caf5f2a5a7dfd9ea22b749d5c15cf69548846"), looks := false }, kinds := [], alts := [], laidByText := true, laidKinds := [.data], laidTests := true, laidLooks := .later }
def FnEscapedPathCardSaid : Prop := Claim7.holds Tryd.pinned (.plain (OpenSpec.ofChange fnEscapedPathSpec)) fnEscapedPathCard

/-- THE SECOND FORM's CARD OF 'laws.FnEscape'. -/
def fnEscapeUptoCard : Claim7 := { stood := { row := fnEscapeUptoRow, standIns := [], harness := (true, "bbf6c24d14299f2acc7fb56eb11caf5f2a5a7dfd9ea22b749d5c15cf69548846"), looks := false }, kinds := [], alts := [], laidByText := true, laidKinds := [.data], laidTests := true, laidLooks := .later }
def FnEscapeUptoCardSaid : Prop := Claim7.holds Tryd.pinned (.plain (OpenSpec.upto fnEscapeSpec)) fnEscapeUptoCard

/-- THE SECOND FORM's CARD OF 'laws.FnPathUnescape'. -/
def fnPathUnescapeUptoCard : Claim7 := { stood := { row := fnPathUnescapeUptoRow, standIns := [], harness := (true, "bbf6c24d14299f2acc7fb56eb11caf5f2a5a7dfd9ea22b749d5c15cf69548846"), looks := false }, kinds := [], alts := [], laidByText := true, laidKinds := [.data], laidTests := true, laidLooks := .later }
def FnPathUnescapeUptoCardSaid : Prop := Claim7.holds Tryd.pinned (.plain (OpenSpec.upto fnPathUnescapeSpec)) fnPathUnescapeUptoCard

/-- THE SECOND FORM's CARD OF 'laws.FnQueryUnescape'. -/
def fnQueryUnescapeUptoCard : Claim7 := { stood := { row := fnQueryUnescapeUptoRow, standIns := [], harness := (true, "bbf6c24d14299f2acc7fb56eb11caf5f2a5a7dfd9ea22b749d5c15cf69548846"), looks := false }, kinds := [], alts := [], laidByText := true, laidKinds := [.data], laidTests := true, laidLooks := .later }
def FnQueryUnescapeUptoCardSaid : Prop := Claim7.holds Tryd.pinned (.plain (OpenSpec.upto fnQueryUnescapeSpec)) fnQueryUnescapeUptoCard

/-- THE SECOND FORM's CARD OF 'laws.FnPathEscape'. -/
def fnPathEscapeUptoCard : Claim7 := { stood := { row := fnPathEscapeUptoRow, standIns := [], harness := (true, "bbf6c24d14299f2acc7fb56eb11caf5f2a5a7dfd9ea22b749d5c15cf69548846"), looks := false }, kinds := [], alts := [], laidByText := true, laidKinds := [.data], laidTests := true, laidLooks := .later }
def FnPathEscapeUptoCardSaid : Prop := Claim7.holds Tryd.pinned (.plain (OpenSpec.upto fnPathEscapeSpec)) fnPathEscapeUptoCard

/-- THE SECOND FORM's CARD OF 'laws.FnQueryEscape'. -/
def fnQueryEscapeUptoCard : Claim7 := { stood := { row := fnQueryEscapeUptoRow, standIns := [], harness := (true, "bbf6c24d14299f2acc7fb56eb11caf5f2a5a7dfd9ea22b749d5c15cf69548846"), looks := false }, kinds := [], alts := [], laidByText := true, laidKinds := [.data], laidTests := true, laidLooks := .later }
def FnQueryEscapeUptoCardSaid : Prop := Claim7.holds Tryd.pinned (.plain (OpenSpec.upto fnQueryEscapeSpec)) fnQueryEscapeUptoCard

/-- THE SECOND FORM's CARD OF 'laws.FnEscapedPath'. -/
def fnEscapedPathUptoCard : Claim7 := { stood := { row := fnEscapedPathUptoRow, standIns := [], harness := (true, "bbf6c24d14299f2acc7fb56eb11caf5f2a5a7dfd9ea22b749d5c15cf69548846"), looks := false }, kinds := [], alts := [], laidByText := true, laidKinds := [.data], laidTests := true, laidLooks := .later }
def FnEscapedPathUptoCardSaid : Prop := Claim7.holds Tryd.pinned (.plain (OpenSpec.upto fnEscapedPathSpec)) fnEscapedPathUptoCard
end Rows
end Go.Proofs.YtcbmfimafiolaaaDoor
