/-
  DERIVED. GIVEN WITH THE SEED: THE CARDS: each row of YtibcegbacnjmfaaDoorRows.lean that lists a variable, with what it lists TIED to the program's text (the seventh form; the later family's looks); each row that meets fmt, with fmt's text TOLD by the authors' own Lean function (tested against real Go, not proved from fmt's source: count such statements apart). THE CARD IS WHAT COUNTS. Prove the row's statement (the work); the ties are given (YtibcegbacnjmfaaDoorTie.lean); close each card by the builder's one call (the guide's Derived/Test/ToyasCard.lean, 'card_holds'). Laid BY PROGRAM, IN A SANDBOX (cutbox-door.mjs). By AI agents, Wed Nov 11 2026. No macro, syntax, notation, axiom, sorry.
-/
import Derived.Test.YtibcegbacnjmfaaDoorRows
import GoSem.ClaimSeven
namespace Go.Proofs.YtibcegbacnjmfaaDoor
namespace Rows

/-- THE TIED CARD OF 'laws.FnBadPercent'. -/
def fnBadPercentCard : Claim7 := { stood := { row := fnBadPercentRow, standIns := [], harness := (true, "d01072f4913cb9610345a9644a6287d3e2318fdbaf0810111aa06a8951d50878"), looks := false }, kinds := [], alts := [], laidByText := true, laidKinds := [.data, .called, .called, .data, .zero, .pinned, .pinned], laidTests := true, laidLooks := .later }
def FnBadPercentCardSaid : Prop := Claim7.holds Tryd.pinned (.plain (OpenSpec.ofChange fnBadPercentSpec)) fnBadPercentCard

/-- THE TIED CARD OF 'laws.FnControl'. -/
def fnControlCard : Claim7 := { stood := { row := fnControlRow, standIns := [], harness := (true, "d01072f4913cb9610345a9644a6287d3e2318fdbaf0810111aa06a8951d50878"), looks := false }, kinds := [], alts := [], laidByText := true, laidKinds := [.data, .called, .called, .data, .zero, .pinned, .pinned], laidTests := true, laidLooks := .later }
def FnControlCardSaid : Prop := Claim7.holds Tryd.pinned (.plain (OpenSpec.ofChange fnControlSpec)) fnControlCard

/-- THE TIED CARD OF 'laws.FnFieldsBack'. -/
def fnFieldsBackCard : Claim7 := { stood := { row := fnFieldsBackRow, standIns := [], harness := (true, "d01072f4913cb9610345a9644a6287d3e2318fdbaf0810111aa06a8951d50878"), looks := false }, kinds := [], alts := [], laidByText := true, laidKinds := [.data, .called, .called, .data, .zero, .pinned, .pinned], laidTests := true, laidLooks := .later }
def FnFieldsBackCardSaid : Prop := Claim7.holds Tryd.pinned (.plain (OpenSpec.ofChange fnFieldsBackSpec)) fnFieldsBackCard

/-- THE TIED CARD OF 'laws.FnRequestURI'. -/
def fnRequestURICard : Claim7 := { stood := { row := fnRequestURIRow, standIns := [], harness := (true, "d01072f4913cb9610345a9644a6287d3e2318fdbaf0810111aa06a8951d50878"), looks := false }, kinds := [], alts := [], laidByText := true, laidKinds := [.data, .called, .called, .data, .zero, .pinned, .pinned], laidTests := true, laidLooks := .later }
def FnRequestURICardSaid : Prop := Claim7.holds Tryd.pinned (.plain (OpenSpec.ofChange fnRequestURISpec)) fnRequestURICard

/-- THE SECOND FORM's CARD OF 'laws.FnBadPercent'. -/
def fnBadPercentUptoCard : Claim7 := { stood := { row := fnBadPercentUptoRow, standIns := [], harness := (true, "d01072f4913cb9610345a9644a6287d3e2318fdbaf0810111aa06a8951d50878"), looks := false }, kinds := [], alts := [], laidByText := true, laidKinds := [.data, .called, .called, .data, .zero, .pinned, .pinned], laidTests := true, laidLooks := .later }
def FnBadPercentUptoCardSaid : Prop := Claim7.holds Tryd.pinned (.plain (OpenSpec.upto fnBadPercentSpec)) fnBadPercentUptoCard

/-- THE SECOND FORM's CARD OF 'laws.FnControl'. -/
def fnControlUptoCard : Claim7 := { stood := { row := fnControlUptoRow, standIns := [], harness := (true, "d01072f4913cb9610345a9644a6287d3e2318fdbaf0810111aa06a8951d50878"), looks := false }, kinds := [], alts := [], laidByText := true, laidKinds := [.data, .called, .called, .data, .zero, .pinned, .pinned], laidTests := true, laidLooks := .later }
def FnControlUptoCardSaid : Prop := Claim7.holds Tryd.pinned (.plain (OpenSpec.upto fnControlSpec)) fnControlUptoCard

/-- THE SECOND FORM's CARD OF 'laws.FnFieldsBack'. -/
def fnFieldsBackUptoCard : Claim7 := { stood := { row := fnFieldsBackUptoRow, standIns := [], harness := (true, "d01072f4913cb9610345a9644a6287d3e2318fdbaf0810111aa06a8951d50878"), looks := false }, kinds := [], alts := [], laidByText := true, laidKinds := [.data, .called, .called, .data, .zero, .pinned, .pinned], laidTests := true, laidLooks := .later }
def FnFieldsBackUptoCardSaid : Prop := Claim7.holds Tryd.pinned (.plain (OpenSpec.upto fnFieldsBackSpec)) fnFieldsBackUptoCard

/-- THE SECOND FORM's CARD OF 'laws.FnRequestURI'. -/
def fnRequestURIUptoCard : Claim7 := { stood := { row := fnRequestURIUptoRow, standIns := [], harness := (true, "d01072f4913cb9610345a9644a6287d3e2318fdbaf0810111aa06a8951d50878"), looks := false }, kinds := [], alts := [], laidByText := true, laidKinds := [.data, .called, .called, .data, .zero, .pinned, .pinned], laidTests := true, laidLooks := .later }
def FnRequestURIUptoCardSaid : Prop := Claim7.holds Tryd.pinned (.plain (OpenSpec.upto fnRequestURISpec)) fnRequestURIUptoCard
end Rows
end Go.Proofs.YtibcegbacnjmfaaDoor
