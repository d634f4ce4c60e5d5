/-
  NARROWER THAN 'FOR EVERY INPUT', by the rows' own cells (each row's printed sentence says how): FnQuery: laid · FnQueryOf: laid · FnEmptySettings: laid · FnEncodeBack: laid · FnEncode: laid.
  DERIVED. THE GIVEN ROWS OF THIS SEAT. 5 by the template 'for every input the law returns true; each argument reads behind the call as it read before'; 0 by the template 'total and deterministic' (their statements: YtlholchmgheemaaDoorTotals.lean).
  GIVEN WITH THE SEED: the statements are not yours to turn. If you find one false, say at which input.
  Laid BY PROGRAM, IN A SANDBOX (cutbox-rows.mjs): the forced cells as the released guide's own fill.sh prints them over the translation 6f276e8409e1b20d… (all of the seat's roots in one cut). By AI agents, Wed Nov 11 2026. No macro, syntax, notation, axiom, sorry.
-/
import Derived.Test.YtlholchmgheemaaDoorChecked
import GoSem.Claim
import GoSem.ClaimJoined
import GoSem.ClaimMapViews
import Derived.JoinedTies
import Derived.KernelRfl
namespace Go.Proofs.YtlholchmgheemaaDoor
/- THE CELL 'sum', in the pinned program and in every row, IS THE sha256 OF THE DUMP (.gsa) THAT YtlholchmgheemaaDoorProg.lean LOADS. Nothing in Lean hashes anything: it is a label: what it is worth is what the hold of that sum in a sandbox is worth. -/
noncomputable def Tryd.pinned : Pinned := { name := "ytlholchmgheemaadoor", sum := "6f276e8409e1b20d0ea61de651e9900aea5b27bc605789e4700d497c2923ff0a", checked := Tryd.checked }
namespace Rows
def none {H : Type} : Left H := { results := [], args := [] }

/- WHAT THE LISTED PACKAGE-LEVEL VARIABLES READ AS WHEN THE CALL BEGINS. Each datum BY PROGRAM (the guide's laid-datum.mjs) off the statement by which the dump's own 'gosem.cut.vars' lays the variable. In a bare row this is a premise. The card (YtlholchmgheemaaDoorCards.lean) ties it to the program's text. -/
def laid_signwriter_pub_neturl_table {H : Type} : DataW H := .agg [.lit (.int .u8 0), .lit (.int .u8 0), .lit (.int .u8 0), .lit (.int .u8 0), .lit (.int .u8 0), .lit (.int .u8 0), .lit (.int .u8 0), .lit (.int .u8 0), .lit (.int .u8 0), .lit (.int .u8 0), .lit (.int .u8 0), .lit (.int .u8 0), .lit (.int .u8 0), .lit (.int .u8 0), .lit (.int .u8 0), .lit (.int .u8 0), .lit (.int .u8 0), .lit (.int .u8 0), .lit (.int .u8 0), .lit (.int .u8 0), .lit (.int .u8 0), .lit (.int .u8 0), .lit (.int .u8 0), .lit (.int .u8 0), .lit (.int .u8 0), .lit (.int .u8 0), .lit (.int .u8 0), .lit (.int .u8 0), .lit (.int .u8 0), .lit (.int .u8 0), .lit (.int .u8 0), .lit (.int .u8 0), .lit (.int .u8 0), .lit (.int .u8 76), .lit (.int .u8 12), .lit (.int .u8 0), .lit (.int .u8 95), .lit (.int .u8 0), .lit (.int .u8 95), .lit (.int .u8 12), .lit (.int .u8 76), .lit (.int .u8 76), .lit (.int .u8 76), .lit (.int .u8 95), .lit (.int .u8 93), .lit (.int .u8 127), .lit (.int .u8 127), .lit (.int .u8 65), .lit (.int .u8 255), .lit (.int .u8 255), .lit (.int .u8 255), .lit (.int .u8 255), .lit (.int .u8 255), .lit (.int .u8 255), .lit (.int .u8 255), .lit (.int .u8 255), .lit (.int .u8 255), .lit (.int .u8 255), .lit (.int .u8 79), .lit (.int .u8 93), .lit (.int .u8 12), .lit (.int .u8 95), .lit (.int .u8 12), .lit (.int .u8 64), .lit (.int .u8 67), .lit (.int .u8 255), .lit (.int .u8 255), .lit (.int .u8 255), .lit (.int .u8 255), .lit (.int .u8 255), .lit (.int .u8 255), .lit (.int .u8 127), .lit (.int .u8 127), .lit (.int .u8 127), .lit (.int .u8 127), .lit (.int .u8 127), .lit (.int .u8 127), .lit (.int .u8 127), .lit (.int .u8 127), .lit (.int .u8 127), .lit (.int .u8 127), .lit (.int .u8 127), .lit (.int .u8 127), .lit (.int .u8 127), .lit (.int .u8 127), .lit (.int .u8 127), .lit (.int .u8 127), .lit (.int .u8 127), .lit (.int .u8 127), .lit (.int .u8 127), .lit (.int .u8 127), .lit (.int .u8 12), .lit (.int .u8 0), .lit (.int .u8 12), .lit (.int .u8 0), .lit (.int .u8 127), .lit (.int .u8 0), .lit (.int .u8 255), .lit (.int .u8 255), .lit (.int .u8 255), .lit (.int .u8 255), .lit (.int .u8 255), .lit (.int .u8 255), .lit (.int .u8 127), .lit (.int .u8 127), .lit (.int .u8 127), .lit (.int .u8 127), .lit (.int .u8 127), .lit (.int .u8 127), .lit (.int .u8 127), .lit (.int .u8 127), .lit (.int .u8 127), .lit (.int .u8 127), .lit (.int .u8 127), .lit (.int .u8 127), .lit (.int .u8 127), .lit (.int .u8 127), .lit (.int .u8 127), .lit (.int .u8 127), .lit (.int .u8 127), .lit (.int .u8 127), .lit (.int .u8 127), .lit (.int .u8 127), .lit (.int .u8 0), .lit (.int .u8 0), .lit (.int .u8 0), .lit (.int .u8 127), .lit (.int .u8 0), .lit (.int .u8 0), .lit (.int .u8 0), .lit (.int .u8 0), .lit (.int .u8 0), .lit (.int .u8 0), .lit (.int .u8 0), .lit (.int .u8 0), .lit (.int .u8 0), .lit (.int .u8 0), .lit (.int .u8 0), .lit (.int .u8 0), .lit (.int .u8 0), .lit (.int .u8 0), .lit (.int .u8 0), .lit (.int .u8 0), .lit (.int .u8 0), .lit (.int .u8 0), .lit (.int .u8 0), .lit (.int .u8 0), .lit (.int .u8 0), .lit (.int .u8 0), .lit (.int .u8 0), .lit (.int .u8 0), .lit (.int .u8 0), .lit (.int .u8 0), .lit (.int .u8 0), .lit (.int .u8 0), .lit (.int .u8 0), .lit (.int .u8 0), .lit (.int .u8 0), .lit (.int .u8 0), .lit (.int .u8 0), .lit (.int .u8 0), .lit (.int .u8 0), .lit (.int .u8 0), .lit (.int .u8 0), .lit (.int .u8 0), .lit (.int .u8 0), .lit (.int .u8 0), .lit (.int .u8 0), .lit (.int .u8 0), .lit (.int .u8 0), .lit (.int .u8 0), .lit (.int .u8 0), .lit (.int .u8 0), .lit (.int .u8 0), .lit (.int .u8 0), .lit (.int .u8 0), .lit (.int .u8 0), .lit (.int .u8 0), .lit (.int .u8 0), .lit (.int .u8 0), .lit (.int .u8 0), .lit (.int .u8 0), .lit (.int .u8 0), .lit (.int .u8 0), .lit (.int .u8 0), .lit (.int .u8 0), .lit (.int .u8 0), .lit (.int .u8 0), .lit (.int .u8 0), .lit (.int .u8 0), .lit (.int .u8 0), .lit (.int .u8 0), .lit (.int .u8 0), .lit (.int .u8 0), .lit (.int .u8 0), .lit (.int .u8 0), .lit (.int .u8 0), .lit (.int .u8 0), .lit (.int .u8 0), .lit (.int .u8 0), .lit (.int .u8 0), .lit (.int .u8 0), .lit (.int .u8 0), .lit (.int .u8 0), .lit (.int .u8 0), .lit (.int .u8 0), .lit (.int .u8 0), .lit (.int .u8 0), .lit (.int .u8 0), .lit (.int .u8 0), .lit (.int .u8 0), .lit (.int .u8 0), .lit (.int .u8 0), .lit (.int .u8 0), .lit (.int .u8 0), .lit (.int .u8 0), .lit (.int .u8 0), .lit (.int .u8 0), .lit (.int .u8 0), .lit (.int .u8 0), .lit (.int .u8 0), .lit (.int .u8 0), .lit (.int .u8 0), .lit (.int .u8 0), .lit (.int .u8 0), .lit (.int .u8 0), .lit (.int .u8 0), .lit (.int .u8 0), .lit (.int .u8 0), .lit (.int .u8 0), .lit (.int .u8 0), .lit (.int .u8 0), .lit (.int .u8 0), .lit (.int .u8 0), .lit (.int .u8 0), .lit (.int .u8 0), .lit (.int .u8 0), .lit (.int .u8 0), .lit (.int .u8 0), .lit (.int .u8 0), .lit (.int .u8 0), .lit (.int .u8 0), .lit (.int .u8 0), .lit (.int .u8 0), .lit (.int .u8 0), .lit (.int .u8 0), .lit (.int .u8 0), .lit (.int .u8 0), .lit (.int .u8 0), .lit (.int .u8 0), .lit (.int .u8 0), .lit (.int .u8 0), .lit (.int .u8 0), .lit (.int .u8 0), .lit (.int .u8 0), .lit (.int .u8 0)]

/-- 'laws.FnQuery': WHATEVER THE INPUT: true; the input reads as it did. -/
def fnQuerySpec : ChangeSpec := { name := "fnQuery", fn := fun _ => fun
  | [d] => { results := [.lit (.bool true)], args := [d] }
  | _ => none }
def fnQueryRow : OpenClaim := { program := "ytlholchmgheemaadoor", sum := "6f276e8409e1b20d0ea61de651e9900aea5b27bc605789e4700d497c2923ff0a", func := "signwriter/laws.FnQuery", spec := "fnQuery", inPlace := ["internal/abi.NoEscape", "internal/bytealg.MakeNoZero"], named := ["signwriter/pub/neturl.table"], apart := false, laid := [("signwriter/pub/neturl.table", laid_signwriter_pub_neturl_table)] }
def FnQuerySaid : Prop := fnQueryRow.holds Tryd.pinned (OpenSpec.ofChange fnQuerySpec)

/-- ITS FALSE NEIGHBOUR: 'it returns false'. Refute it at one input. -/
def fnQueryWrong : ChangeSpec := { name := "fnQuery", fn := fun _ => fun
  | [d] => { results := [.lit (.bool false)], args := [d] }
  | _ => none }
def FnQueryWrongFalsely : Prop := fnQueryRow.holds Tryd.pinned (OpenSpec.ofChange fnQueryWrong)

/-- 'laws.FnQueryOf': WHATEVER THE INPUT: true; the input reads as it did. -/
def fnQueryOfSpec : ChangeSpec := { name := "fnQueryOf", fn := fun _ => fun
  | [d] => { results := [.lit (.bool true)], args := [d] }
  | _ => none }
def fnQueryOfRow : OpenClaim := { program := "ytlholchmgheemaadoor", sum := "6f276e8409e1b20d0ea61de651e9900aea5b27bc605789e4700d497c2923ff0a", func := "signwriter/laws.FnQueryOf", spec := "fnQueryOf", inPlace := ["internal/abi.NoEscape", "internal/bytealg.MakeNoZero"], named := ["signwriter/pub/neturl.table"], apart := false, laid := [("signwriter/pub/neturl.table", laid_signwriter_pub_neturl_table)] }
def FnQueryOfSaid : Prop := fnQueryOfRow.holds Tryd.pinned (OpenSpec.ofChange fnQueryOfSpec)

/-- ITS FALSE NEIGHBOUR: 'it returns false'. Refute it at one input. -/
def fnQueryOfWrong : ChangeSpec := { name := "fnQueryOf", fn := fun _ => fun
  | [d] => { results := [.lit (.bool false)], args := [d] }
  | _ => none }
def FnQueryOfWrongFalsely : Prop := fnQueryOfRow.holds Tryd.pinned (OpenSpec.ofChange fnQueryOfWrong)

/-- 'laws.FnEmptySettings': WHATEVER THE INPUT: true; the input reads as it did. -/
def fnEmptySettingsSpec : ChangeSpec := { name := "fnEmptySettings", fn := fun _ => fun
  | [d1, d2] => { results := [.lit (.bool true)], args := [d1, d2] }
  | _ => none }
def fnEmptySettingsRow : OpenClaim := { program := "ytlholchmgheemaadoor", sum := "6f276e8409e1b20d0ea61de651e9900aea5b27bc605789e4700d497c2923ff0a", func := "signwriter/laws.FnEmptySettings", spec := "fnEmptySettings", inPlace := ["internal/abi.NoEscape", "internal/bytealg.MakeNoZero"], recurses := true, named := ["signwriter/pub/neturl.table"], apart := false, laid := [("signwriter/pub/neturl.table", laid_signwriter_pub_neturl_table)] }
def FnEmptySettingsSaid : Prop := fnEmptySettingsRow.holds Tryd.pinned (OpenSpec.ofChange fnEmptySettingsSpec)

/-- ITS FALSE NEIGHBOUR: 'it returns false'. Refute it at one input. -/
def fnEmptySettingsWrong : ChangeSpec := { name := "fnEmptySettings", fn := fun _ => fun
  | [d1, d2] => { results := [.lit (.bool false)], args := [d1, d2] }
  | _ => none }
def FnEmptySettingsWrongFalsely : Prop := fnEmptySettingsRow.holds Tryd.pinned (OpenSpec.ofChange fnEmptySettingsWrong)

/-- 'laws.FnEncodeBack': WHATEVER THE INPUT: true; the input reads as it did. -/
def fnEncodeBackSpec : ChangeSpec := { name := "fnEncodeBack", fn := fun _ => fun
  | [d] => { results := [.lit (.bool true)], args := [d] }
  | _ => none }
def fnEncodeBackRow : OpenClaim := { program := "ytlholchmgheemaadoor", sum := "6f276e8409e1b20d0ea61de651e9900aea5b27bc605789e4700d497c2923ff0a", func := "signwriter/laws.FnEncodeBack", spec := "fnEncodeBack", inPlace := ["internal/abi.NoEscape", "internal/bytealg.MakeNoZero"], recurses := true, named := ["signwriter/pub/neturl.table"], apart := false, laid := [("signwriter/pub/neturl.table", laid_signwriter_pub_neturl_table)] }
def FnEncodeBackSaid : Prop := fnEncodeBackRow.holds Tryd.pinned (OpenSpec.ofChange fnEncodeBackSpec)

/-- ITS FALSE NEIGHBOUR: 'it returns false'. Refute it at one input. -/
def fnEncodeBackWrong : ChangeSpec := { name := "fnEncodeBack", fn := fun _ => fun
  | [d] => { results := [.lit (.bool false)], args := [d] }
  | _ => none }
def FnEncodeBackWrongFalsely : Prop := fnEncodeBackRow.holds Tryd.pinned (OpenSpec.ofChange fnEncodeBackWrong)

/-- 'laws.FnEncode': WHATEVER THE INPUT: true; the input reads as it did. -/
def fnEncodeSpec : ChangeSpec := { name := "fnEncode", fn := fun _ => fun
  | [d] => { results := [.lit (.bool true)], args := [d] }
  | _ => none }
def fnEncodeRow : OpenClaim := { program := "ytlholchmgheemaadoor", sum := "6f276e8409e1b20d0ea61de651e9900aea5b27bc605789e4700d497c2923ff0a", func := "signwriter/laws.FnEncode", spec := "fnEncode", inPlace := ["internal/abi.NoEscape", "internal/bytealg.MakeNoZero"], recurses := true, named := ["signwriter/pub/neturl.table"], apart := false, laid := [("signwriter/pub/neturl.table", laid_signwriter_pub_neturl_table)] }
def FnEncodeSaid : Prop := fnEncodeRow.holds Tryd.pinned (OpenSpec.ofChange fnEncodeSpec)

/-- ITS FALSE NEIGHBOUR: 'it returns false'. Refute it at one input. -/
def fnEncodeWrong : ChangeSpec := { name := "fnEncode", fn := fun _ => fun
  | [d] => { results := [.lit (.bool false)], args := [d] }
  | _ => none }
def FnEncodeWrongFalsely : Prop := fnEncodeRow.holds Tryd.pinned (OpenSpec.ofChange fnEncodeWrong)

/- THE SECOND FORM. 'bulk': how many values and letters a reading holds, each counted each time it is reached (what is shared counts as often as it is met; a slice's spare places count too). A statement '..UptoSaid' is the law's where the arguments, and the package variables that the reading takes, are together of bulk at most 1048576: NARROWER than '..Said'. Prove '..Said' where nothing that the law and all that it calls make is longer than what came in: it says more and counts as full. Else prove '..UptoSaid'. A law counts once. -/
mutual
def uptoBulk {H : Type} : DataW H → Nat
  | .lit (.string bytes) => bytes.length + 1
  | .lit _ => 1
  | .nil => 1
  | .ptr d => uptoBulk d + 1
  | .slice elems spare => uptoBulkAll elems + uptoBulkAll spare + 1
  | .agg parts => uptoBulkAll parts + 1
  | .iface _ d => uptoBulk d + 1
  | .map entries => uptoBulkEntries entries + 1
  | .held _ => 1
def uptoBulkAll {H : Type} : List (DataW H) → Nat
  | [] => 0
  | d :: r => uptoBulk d + uptoBulkAll r
def uptoBulkEntries {H : Type} : List (Lit × DataW H) → Nat
  | [] => 0
  | x :: r => uptoBulkEntry x + uptoBulkEntries r
def uptoBulkEntry {H : Type} : Lit × DataW H → Nat
  | (.string bytes, d) => bytes.length + uptoBulk d + 1
  | (_, d) => uptoBulk d + 1
 end
def uptoSmall : (H : Type) → List (DataW H) → Bool := fun _ ds => decide (uptoBulkAll ds ≤ 1048576)
def OpenSpec.upto (s : _root_.Go.ChangeSpec) : _root_.Go.OpenSpec := { _root_.Go.OpenSpec.ofChange s with cond := some uptoSmall }

/-- 'laws.FnQuery', WHERE WHAT IT READS IS OF BULK AT MOST 1048576: true; the input reads as it did. -/
def fnQueryUptoRow : OpenClaim := { program := "ytlholchmgheemaadoor", sum := "6f276e8409e1b20d0ea61de651e9900aea5b27bc605789e4700d497c2923ff0a", func := "signwriter/laws.FnQuery", spec := "fnQuery", inPlace := ["internal/abi.NoEscape", "internal/bytealg.MakeNoZero"], named := ["signwriter/pub/neturl.table"], apart := false, laid := [("signwriter/pub/neturl.table", laid_signwriter_pub_neturl_table)], narrowed := true }
def FnQueryUptoSaid : Prop := fnQueryUptoRow.holds Tryd.pinned (OpenSpec.upto fnQuerySpec)

/-- 'laws.FnQueryOf', WHERE WHAT IT READS IS OF BULK AT MOST 1048576: true; the input reads as it did. -/
def fnQueryOfUptoRow : OpenClaim := { program := "ytlholchmgheemaadoor", sum := "6f276e8409e1b20d0ea61de651e9900aea5b27bc605789e4700d497c2923ff0a", func := "signwriter/laws.FnQueryOf", spec := "fnQueryOf", inPlace := ["internal/abi.NoEscape", "internal/bytealg.MakeNoZero"], named := ["signwriter/pub/neturl.table"], apart := false, laid := [("signwriter/pub/neturl.table", laid_signwriter_pub_neturl_table)], narrowed := true }
def FnQueryOfUptoSaid : Prop := fnQueryOfUptoRow.holds Tryd.pinned (OpenSpec.upto fnQueryOfSpec)

/-- 'laws.FnEmptySettings', WHERE WHAT IT READS IS OF BULK AT MOST 1048576: true; the input reads as it did. -/
def fnEmptySettingsUptoRow : OpenClaim := { program := "ytlholchmgheemaadoor", sum := "6f276e8409e1b20d0ea61de651e9900aea5b27bc605789e4700d497c2923ff0a", func := "signwriter/laws.FnEmptySettings", spec := "fnEmptySettings", inPlace := ["internal/abi.NoEscape", "internal/bytealg.MakeNoZero"], recurses := true, named := ["signwriter/pub/neturl.table"], apart := false, laid := [("signwriter/pub/neturl.table", laid_signwriter_pub_neturl_table)], narrowed := true }
def FnEmptySettingsUptoSaid : Prop := fnEmptySettingsUptoRow.holds Tryd.pinned (OpenSpec.upto fnEmptySettingsSpec)

/-- 'laws.FnEncodeBack', WHERE WHAT IT READS IS OF BULK AT MOST 1048576: true; the input reads as it did. -/
def fnEncodeBackUptoRow : OpenClaim := { program := "ytlholchmgheemaadoor", sum := "6f276e8409e1b20d0ea61de651e9900aea5b27bc605789e4700d497c2923ff0a", func := "signwriter/laws.FnEncodeBack", spec := "fnEncodeBack", inPlace := ["internal/abi.NoEscape", "internal/bytealg.MakeNoZero"], recurses := true, named := ["signwriter/pub/neturl.table"], apart := false, laid := [("signwriter/pub/neturl.table", laid_signwriter_pub_neturl_table)], narrowed := true }
def FnEncodeBackUptoSaid : Prop := fnEncodeBackUptoRow.holds Tryd.pinned (OpenSpec.upto fnEncodeBackSpec)

/-- 'laws.FnEncode', WHERE WHAT IT READS IS OF BULK AT MOST 1048576: true; the input reads as it did. -/
def fnEncodeUptoRow : OpenClaim := { program := "ytlholchmgheemaadoor", sum := "6f276e8409e1b20d0ea61de651e9900aea5b27bc605789e4700d497c2923ff0a", func := "signwriter/laws.FnEncode", spec := "fnEncode", inPlace := ["internal/abi.NoEscape", "internal/bytealg.MakeNoZero"], recurses := true, named := ["signwriter/pub/neturl.table"], apart := false, laid := [("signwriter/pub/neturl.table", laid_signwriter_pub_neturl_table)], narrowed := true }
def FnEncodeUptoSaid : Prop := fnEncodeUptoRow.holds Tryd.pinned (OpenSpec.upto fnEncodeSpec)

end Rows
end Go.Proofs.YtlholchmgheemaaDoor
