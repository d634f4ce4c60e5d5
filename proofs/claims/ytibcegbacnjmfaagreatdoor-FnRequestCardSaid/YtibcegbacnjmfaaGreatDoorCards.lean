/-
  DERIVED. GIVEN WITH THE SEED: THE CARDS: each row of YtibcegbacnjmfaaGreatDoorRows.lean that lists a variable, with what it lists TIED to the program's text (the seventh form; the later family's looks); each row that meets fmt, with fmt's text TOLD by the authors' own Lean function (tested against real Go, not proved from fmt's source: count such statements apart). THE CARD IS WHAT COUNTS. Prove the row's statement (the work); the ties are given (YtibcegbacnjmfaaGreatDoorTie.lean); close each card by the builder's one call (the guide's Derived/Test/ToyasCard.lean, 'card_holds'). Laid BY PROGRAM, IN A SANDBOX (cutbox-door.mjs). By AI agents, Wed Nov 11 2026. No macro, syntax, notation, axiom, sorry.
-/
import Derived.Test.YtibcegbacnjmfaaGreatDoorRows
import GoSem.ClaimSeven
namespace Go.Proofs.YtibcegbacnjmfaaGreatDoor
namespace Rows

/-- THE TIED CARD OF 'laws.FnRequest'. -/
def fnRequestCard : Claim7 := { stood := { row := fnRequestRow, standIns := [], harness := (true, "23e9c10503b565bcc12641fa4399cdb909809935661d7cca2c3a8dce859eda02"), looks := false }, kinds := [], alts := [], laidByText := true, laidKinds := [.data, .called, .called, .data, .zero, .pinned, .pinned], laidTests := true, laidLooks := .later }
def FnRequestCardSaid : Prop := Claim7.holds Tryz.pinned (.plain (OpenSpec.ofChange fnRequestSpec)) fnRequestCard

/-- THE TIED CARD OF 'laws.FnRedacted'. -/
def fnRedactedCard : Claim7 := { stood := { row := fnRedactedRow, standIns := [], harness := (true, "23e9c10503b565bcc12641fa4399cdb909809935661d7cca2c3a8dce859eda02"), looks := false }, kinds := [], alts := [], laidByText := true, laidKinds := [.data, .called, .called, .data, .zero, .pinned, .pinned], laidTests := true, laidLooks := .later }
def FnRedactedCardSaid : Prop := Claim7.holds Tryz.pinned (.plain (OpenSpec.ofChange fnRedactedSpec)) fnRedactedCard

/-- THE SECOND FORM's CARD OF 'laws.FnRequest'. -/
def fnRequestUptoCard : Claim7 := { stood := { row := fnRequestUptoRow, standIns := [], harness := (true, "23e9c10503b565bcc12641fa4399cdb909809935661d7cca2c3a8dce859eda02"), looks := false }, kinds := [], alts := [], laidByText := true, laidKinds := [.data, .called, .called, .data, .zero, .pinned, .pinned], laidTests := true, laidLooks := .later }
def FnRequestUptoCardSaid : Prop := Claim7.holds Tryz.pinned (.plain (OpenSpec.upto fnRequestSpec)) fnRequestUptoCard

/-- THE SECOND FORM's CARD OF 'laws.FnRedacted'. -/
def fnRedactedUptoCard : Claim7 := { stood := { row := fnRedactedUptoRow, standIns := [], harness := (true, "23e9c10503b565bcc12641fa4399cdb909809935661d7cca2c3a8dce859eda02"), looks := false }, kinds := [], alts := [], laidByText := true, laidKinds := [.data, .called, .called, .data, .zero, .pinned, .pinned], laidTests := true, laidLooks := .later }
def FnRedactedUptoCardSaid : Prop := Claim7.holds Tryz.pinned (.plain (OpenSpec.upto fnRedactedSpec)) fnRedactedUptoCard
end Rows
end Go.Proofs.YtibcegbacnjmfaaGreatDoor
