/-
  DERIVED. GIVEN WITH THE SEED: THE CARDS: each row of YtlholchmgheemaaDoorRows.lean that lists a variable, with what it lists TIED to the program's text (the seventh form; the later family's looks); each row that meets fmt, with fmt's text TOLD by the authors' own Lean function (tested against real Go, not proved from fmt's source: count such statements apart). THE CARD IS WHAT COUNTS. Prove the row's statement (the work); the ties are given (YtlholchmgheemaaDoorTie.lean); close each card by the builder's one call (the guide's Derived/Test/ToyasCard.lean, 'card_holds'). Laid BY PROGRAM, IN A SANDBOX (cutbox-door.mjs). By AI agents, Wed Nov 11 2026. No macro, syntax, notation, axiom, sorry.
-/
import Derived.Test.YtlholchmgheemaaDoorRows
import GoSem.ClaimSeven
namespace Go.Proofs.YtlholchmgheemaaDoor
namespace Rows

/-- THE TIED CARD OF 'laws.FnQuery'. -/
def fnQueryCard : Claim7 := { stood := { row := fnQueryRow, standIns := [], harness := (true, "0c95ec2bf36f37a4419138c36fa243ca577fe0067ffdd9d8509e7a1df4a880fb"), looks := false }, kinds := [], alts := [], laidByText := true, laidKinds := [.data], laidTests := true, laidLooks := .later }
def FnQueryCardSaid : Prop := Claim7.holds Tryd.pinned (.plain (OpenSpec.ofChange fnQuerySpec)) fnQueryCard

/-- THE TIED CARD OF 'laws.FnQueryOf'. -/
def fnQueryOfCard : Claim7 := { stood := { row := fnQueryOfRow, standIns := [], harness := (true, "0c95ec2bf36f37a4419138c36fa243ca577fe0067ffdd9d8509e7a1df4a880fb"), looks := false }, kinds := [], alts := [], laidByText := true, laidKinds := [.data], laidTests := true, laidLooks := .later }
def FnQueryOfCardSaid : Prop := Claim7.holds Tryd.pinned (.plain (OpenSpec.ofChange fnQueryOfSpec)) fnQueryOfCard

/-- THE TIED CARD OF 'laws.FnEmptySettings'. -/
def fnEmptySettingsCard : Claim7 := { stood := { row := fnEmptySettingsRow, standIns := [], harness := (true, "0c95ec2bf36f37a4419138c36fa243ca577fe0067ffdd9d8509e7a1df4a880fb"), looks := false }, kinds := [], alts := [], laidByText := true, laidKinds := [.data], laidTests := true, laidLooks := .later }
def FnEmptySettingsCardSaid : Prop := Claim7.holds Tryd.pinned (.plain (OpenSpec.ofChange fnEmptySettingsSpec)) fnEmptySettingsCard

/-- THE TIED CARD OF 'laws.FnEncodeBack'. -/
def fnEncodeBackCard : Claim7 := { stood := { row := fnEncodeBackRow, standIns := [], harness := (true, "0c95ec2bf36f37a4419138c36fa243ca577fe0067ffdd9d8509e7a1df4a880fb"), looks := false }, kinds := [], alts := [], laidByText := true, laidKinds := [.data], laidTests := true, laidLooks := .later }
def FnEncodeBackCardSaid : Prop := Claim7.holds Tryd.pinned (.plain (OpenSpec.ofChange fnEncodeBackSpec)) fnEncodeBackCard

/-- THE TIED CARD OF 'laws.FnEncode'. -/
def fnEncodeCard : Claim7 := { stood := { row := fnEncodeRow, standIns := [], harness := (true, "0c95ec2bf36f37a4419138c36fa243ca577fe0067ffdd9d8509e7a1df4a880fb"), looks := false }, kinds := [], alts := [], laidByText := true, laidKinds := [.data], laidTests := true, laidLooks := .later }
def FnEncodeCardSaid : Prop := Claim7.holds Tryd.pinned (.plain (OpenSpec.ofChange fnEncodeSpec)) fnEncodeCard

/-- THE SECOND FORM's CARD OF 'laws.FnQuery'. -/
def fnQueryUptoCard : Claim7 := { stood := { row := fnQueryUptoRow, standIns := [], harness := (true, "0c95ec2bf36f37a4419138c36fa243ca577fe0067ffdd9d8509e7a1df4a880fb"), looks := false }, kinds := [], alts := [], laidByText := true, laidKinds := [.data], laidTests := true, laidLooks := .later }
def FnQueryUptoCardSaid : Prop := Claim7.holds Tryd.pinned (.plain (OpenSpec.upto fnQuerySpec)) fnQueryUptoCard

/-- THE SECOND FORM's CARD OF 'laws.FnQueryOf'. -/
def fnQueryOfUptoCard : Claim7 := { stood := { row := fnQueryOfUptoRow, standIns := [], harness := (true, "0c95ec2bf36f37a4419138c36fa243ca577fe0067ffdd9d8509e7a1df4a880fb"), looks := false }, kinds := [], alts := [], laidByText := true, laidKinds := [.data], laidTests := true, laidLooks := .later }
def FnQueryOfUptoCardSaid : Prop := Claim7.holds Tryd.pinned (.plain (OpenSpec.upto fnQueryOfSpec)) fnQueryOfUptoCard

/-- THE SECOND FORM's CARD OF 'laws.FnEmptySettings'. -/
def fnEmptySettingsUptoCard : Claim7 := { stood := { row := fnEmptySettingsUptoRow, standIns := [], harness := (true, "0c95ec2bf36f37a4419138c36fa243ca577fe0067ffdd9d8509e7a1df4a880fb"), looks := false }, kinds := [], alts := [], laidByText := true, laidKinds := [.data], laidTests := true, laidLooks := .later }
def FnEmptySettingsUptoCardSaid : Prop := Claim7.holds Tryd.pinned (.plain (OpenSpec.upto fnEmptySettingsSpec)) fnEmptySettingsUptoCard

/-- THE SECOND FORM's CARD OF 'laws.FnEncodeBack'. -/
def fnEncodeBackUptoCard : Claim7 := { stood := { row := fnEncodeBackUptoRow, standIns := [], harness := (true, "0c95ec2bf36f37a4419138c36fa243ca577fe0067ffdd9d8509e7a1df4a880fb"), looks := false }, kinds := [], alts := [], laidByText := true, laidKinds := [.data], laidTests := true, laidLooks := .later }
def FnEncodeBackUptoCardSaid : Prop := Claim7.holds Tryd.pinned (.plain (OpenSpec.upto fnEncodeBackSpec)) fnEncodeBackUptoCard

/-- THE SECOND FORM's CARD OF 'laws.FnEncode'. -/
def fnEncodeUptoCard : Claim7 := { stood := { row := fnEncodeUptoRow, standIns := [], harness := (true, "0c95ec2bf36f37a4419138c36fa243ca577fe0067ffdd9d8509e7a1df4a880fb"), looks := false }, kinds := [], alts := [], laidByText := true, laidKinds := [.data], laidTests := true, laidLooks := .later }
def FnEncodeUptoCardSaid : Prop := Claim7.holds Tryd.pinned (.plain (OpenSpec.upto fnEncodeSpec)) fnEncodeUptoCard
end Rows
end Go.Proofs.YtlholchmgheemaaDoor
