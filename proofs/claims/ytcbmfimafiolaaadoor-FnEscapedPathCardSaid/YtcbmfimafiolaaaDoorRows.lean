/-
  NARROWER THAN 'FOR EVERY INPUT', by the rows' own cells (each row's printed sentence says how): FnEscape: laid · FnPathUnescape: laid · FnQueryUnescape: laid · FnPathEscape: laid · FnQueryEscape: laid · FnEscapedPath: laid.
  DERIVED. THE GIVEN ROWS OF THIS SEAT. 6 by the template 'for every input the law returns true; each argument reads behind the call as it read before'; 0 by the template 'total and deterministic' (their statements: YtcbmfimafiolaaaDoorTotals.lean).
  GIVEN WITH THE SEED: the statements are not yours to turn. If you find one false, say at which input.
  Laid BY PROGRAM, IN A SANDBOX (cutbox-rows.mjs): the forced cells as the released guide's own fill.sh prints them over the translation 1f4b95c8bb0894eb… (all of the seat's roots in one cut). By AI agents, Wed Nov 11 2026. No macro, syntax, notation, axiom, sorry.
-/
import Derived.Test.YtcbmfimafiolaaaDoorChecked
import GoSem.Claim
import GoSem.ClaimJoined
import GoSem.ClaimMapViews
import Derived.JoinedTies
import Derived.KernelRfl
namespace Go.Proofs.YtcbmfimafiolaaaDoor
/- THE CELL 'sum', in the pinned program and in every row, IS THE sha256 OF THE DUMP (.gsa) THAT YtcbmfimafiolaaaDoorProg.lean LOADS. Nothing in Lean hashes anything: it is a label: what it is worth is what the hold of that sum in a sandbox is worth. -/
noncomputable def Tryd.pinned : Pinned := { name := "ytcbmfimafiolaaadoor", sum := "1f4b95c8bb0894eb507c7b34930c62f46d71a07937cf0494c751138a51bb12fb", checked := Tryd.checked }
namespace Rows
def none {H : Type} : Left H := { results := [], args := [] }

/- WHAT THE LISTED PACKAGE-LEVEL VARIABLES READ AS WHEN THE CALL BEGINS. Each datum BY PROGRAM (the guide's laid-datum.mjs) off the statement by which the dump's own 'gosem.cut.vars' lays the variable. In a bare row this is a premise. The card (YtcbmfimafiolaaaDoorCards.lean) ties it to the program's text. -/
def laid_signwriter_pub_neturl_table {H : Type} : DataW H := .agg [.lit (.int .u8 0), .lit (.int .u8 0), .lit (.int .u8 0), .lit (.int .u8 0), .lit (.int .u8 0), .lit (.int .u8 0), .lit (.int .u8 0), .lit (.int .u8 0), .lit (.int .u8 0), .lit (.int .u8 0), .lit (.int .u8 0), .lit (.int .u8 0), .lit (.int .u8 0), .lit (.int .u8 0), .lit (.int .u8 0), .lit (.int .u8 0), .lit (.int .u8 0), .lit (.int .u8 0), .lit (.int .u8 0), .lit (.int .u8 0), .lit (.int .u8 0), .lit (.int .u8 0), .lit (.int .u8 0), .lit (.int .u8 0), .lit (.int .u8 0), .lit (.int .u8 0), .lit (.int .u8 0), .lit (.int .u8 0), .lit (.int .u8 0), .lit (.int .u8 0), .lit (.int .u8 0), .lit (.int .u8 0), .lit (.int .u8 0), .lit (.int .u8 76), .lit (.int .u8 12), .lit (.int .u8 0), .lit (.int .u8 95), .lit (.int .u8 0), .lit (.int .u8 95), .lit (.int .u8 12), .lit (.int .u8 76), .lit (.int .u8 76), .lit (.int .u8 76), .lit (.int .u8 95), .lit (.int .u8 93), .lit (.int .u8 127), .lit (.int .u8 127), .lit (.int .u8 65), .lit (.int .u8 255), .lit (.int .u8 255), .lit (.int .u8 255), .lit (.int .u8 255), .lit (.int .u8 255), .lit (.int .u8 255), .lit (.int .u8 255), .lit (.int .u8 255), .lit (.int .u8 255), .lit (.int .u8 255), .lit (.int .u8 79), .lit (.int .u8 93), .lit (.int .u8 12), .lit (.int .u8 95), .lit (.int .u8 12), .lit (.int .u8 64), .lit (.int .u8 67), .lit (.int .u8 255), .lit (.int .u8 255), .lit (.int .u8 255), .lit (.int .u8 255), .lit (.int .u8 255), .lit (.int .u8 255), .lit (.int .u8 127), .lit (.int .u8 127), .lit (.int .u8 127), .lit (.int .u8 127), .lit (.int .u8 127), .lit (.int .u8 127), .lit (.int .u8 127), .lit (.int .u8 127), .lit (.int .u8 127), .lit (.int .u8 127), .lit (.int .u8 127), .lit (.int .u8 127), .lit (.int .u8 127), .lit (.int .u8 127), .lit (.int .u8 127), .lit (.int .u8 127), .lit (.int .u8 127), .lit (.int .u8 127), .lit (.int .u8 127), .lit (.int .u8 127), .lit (.int .u8 12), .lit (.int .u8 0), .lit (.int .u8 12), .lit (.int .u8 0), .lit (.int .u8 127), .lit (.int .u8 0), .lit (.int .u8 255), .lit (.int .u8 255), .lit (.int .u8 255), .lit (.int .u8 255), .lit (.int .u8 255), .lit (.int .u8 255), .lit (.int .u8 127), .lit (.int .u8 127), .lit (.int .u8 127), .lit (.int .u8 127), .lit (.int .u8 127), .lit (.int .u8 127), .lit (.int .u8 127), .lit (.int .u8 127), .lit (.int .u8 127), .lit (.int .u8 127), .lit (.int .u8 127), .lit (.int .u8 127), .lit (.int .u8 127), .lit (.int .u8 127), .lit (.int .u8 127), .lit (.int .u8 127), .lit (.int .u8 127), .lit (.int .u8 127), .lit (.int .u8 127), .lit (.int .u8 127), .lit (.int .u8 0), .lit (.int .u8 0), .lit (.int .u8 0), .lit (.int .u8 127), .lit (.int .u8 0), .lit (.int .u8 0), .lit (.int .u8 0), .lit (.int .u8 0), .lit (.int .u8 0), .lit (.int .u8 0), .lit (.int .u8 0), .lit (.int .u8 0), .lit (.int .u8 0), .lit (.int .u8 0), .lit (.int .u8 0), .lit (.int .u8 0), .lit (.int .u8 0), .lit (.int .u8 0), .lit (.int .u8 0), .lit (.int .u8 0), .lit (.int .u8 0), .lit (.int .u8 0), .lit (.int .u8 0), .lit (.int .u8 0), .lit (.int .u8 0), .lit (.int .u8 0), .lit (.int .u8 0), .lit (.int .u8 0), .lit (.int .u8 0), .lit (.int .u8 0), .lit (.int .u8 0), .lit (.int .u8 0), .lit (.int .u8 0), .lit (.int .u8 0), .lit (.int .u8 0), .lit (.int .u8 0), .lit (.int .u8 0), .lit (.int .u8 0), .lit (.int .u8 0), .lit (.int .u8 0), .lit (.int .u8 0), .lit (.int .u8 0), .lit (.int .u8 0), .lit (.int .u8 0), .lit (.int .u8 0), .lit (.int .u8 0), .lit (.int .u8 0), .lit (.int .u8 0), .lit (.int .u8 0), .lit (.int .u8 0), .lit (.int .u8 0), .lit (.int .u8 0), .lit (.int .u8 0), .lit (.int .u8 0), .lit (.int .u8 0), .lit (.int .u8 0), .lit (.int .u8 0), .lit (.int .u8 0), .lit (.int .u8 0), .lit (.int .u8 0), .lit (.int .u8 0), .lit (.int .u8 0), .lit (.int .u8 0), .lit (.int .u8 0), .lit (.int .u8 0), .lit (.int .u8 0), .lit (.int .u8 0), .lit (.int .u8 0), .lit (.int .u8 0), .lit (.int .u8 0), .lit (.int .u8 0), .lit (.int .u8 0), .lit (.int .u8 0), .lit (.int .u8 0), .lit (.int .u8 0), .lit (.int .u8 0), .lit (.int .u8 0), .lit (.int .u8 0), .lit (.int .u8 0), .lit (.int .u8 0), .lit (.int .u8 0), .lit (.int .u8 0), .lit (.int .u8 0), .lit (.int .u8 0), .lit (.int .u8 0), .lit (.int .u8 0), .lit (.int .u8 0), .lit (.int .u8 0), .lit (.int .u8 0), .lit (.int .u8 0), .lit (.int .u8 0), .lit (.int .u8 0), .lit (.int .u8 0), .lit (.int .u8 0), .lit (.int .u8 0), .lit (.int .u8 0), .lit (.int .u8 0), .lit (.int .u8 0), .lit (.int .u8 0), .lit (.int .u8 0), .lit (.int .u8 0), .lit (.int .u8 0), .lit (.int .u8 0), .lit (.int .u8 0), .lit (.int .u8 0), .lit (.int .u8 0), .lit (.int .u8 0), .lit (.int .u8 0), .lit (.int .u8 0), .lit (.int .u8 0), .lit (.int .u8 0), .lit (.int .u8 0), .lit (.int .u8 0), .lit (.int .u8 0), .lit (.int .u8 0), .lit (.int .u8 0), .lit (.int .u8 0), .lit (.int .u8 0), .lit (.int .u8 0), .lit (.int .u8 0), .lit (.int .u8 0), .lit (.int .u8 0), .lit (.int .u8 0), .lit (.int .u8 0), .lit (.int .u8 0), .lit (.int .u8 0), .lit (.int .u8 0), .lit (.int .u8 0), .lit (.int .u8 0), .lit (.int .u8 0), .lit (.int .u8 0), .lit (.int .u8 0), .lit (.int .u8 0)]

/-- 'laws.FnEscape': WHATEVER THE INPUT: true; the input reads as it did. -/
def fnEscapeSpec : ChangeSpec := { name := "fnEscape", fn := fun _ => fun
  | [d] => { results := [.lit (.bool true)], args := [d] }
  | _ => none }
def fnEscapeRow : OpenClaim := { program := "ytcbmfimafiolaaadoor", sum := "1f4b95c8bb0894eb507c7b34930c62f46d71a07937cf0494c751138a51bb12fb", func := "signwriter/laws.FnEscape", spec := "fnEscape", named := ["signwriter/pub/neturl.table"], apart := false, laid := [("signwriter/pub/neturl.table", laid_signwriter_pub_neturl_table)] }
def FnEscapeSaid : Prop := fnEscapeRow.holds Tryd.pinned (OpenSpec.ofChange fnEscapeSpec)

/-- ITS FALSE NEIGHBOUR: 'it returns false'. Refute it at one input. -/
def fnEscapeWrong : ChangeSpec := { name := "fnEscape", fn := fun _ => fun
  | [d] => { results := [.lit (.bool false)], args := [d] }
  | _ => none }
def FnEscapeWrongFalsely : Prop := fnEscapeRow.holds Tryd.pinned (OpenSpec.ofChange fnEscapeWrong)

/-- 'laws.FnPathUnescape': WHATEVER THE INPUT: true; the input reads as it did. -/
def fnPathUnescapeSpec : ChangeSpec := { name := "fnPathUnescape", fn := fun _ => fun
  | [d] => { results := [.lit (.bool true)], args := [d] }
  | _ => none }
def fnPathUnescapeRow : OpenClaim := { program := "ytcbmfimafiolaaadoor", sum := "1f4b95c8bb0894eb507c7b34930c62f46d71a07937cf0494c751138a51bb12fb", func := "signwriter/laws.FnPathUnescape", spec := "fnPathUnescape", inPlace := ["internal/abi.NoEscape", "internal/bytealg.MakeNoZero"], named := ["signwriter/pub/neturl.table"], apart := false, laid := [("signwriter/pub/neturl.table", laid_signwriter_pub_neturl_table)] }
def FnPathUnescapeSaid : Prop := fnPathUnescapeRow.holds Tryd.pinned (OpenSpec.ofChange fnPathUnescapeSpec)

/-- ITS FALSE NEIGHBOUR: 'it returns false'. Refute it at one input. -/
def fnPathUnescapeWrong : ChangeSpec := { name := "fnPathUnescape", fn := fun _ => fun
  | [d] => { results := [.lit (.bool false)], args := [d] }
  | _ => none }
def FnPathUnescapeWrongFalsely : Prop := fnPathUnescapeRow.holds Tryd.pinned (OpenSpec.ofChange fnPathUnescapeWrong)

/-- 'laws.FnQueryUnescape': WHATEVER THE INPUT: true; the input reads as it did. -/
def fnQueryUnescapeSpec : ChangeSpec := { name := "fnQueryUnescape", fn := fun _ => fun
  | [d] => { results := [.lit (.bool true)], args := [d] }
  | _ => none }
def fnQueryUnescapeRow : OpenClaim := { program := "ytcbmfimafiolaaadoor", sum := "1f4b95c8bb0894eb507c7b34930c62f46d71a07937cf0494c751138a51bb12fb", func := "signwriter/laws.FnQueryUnescape", spec := "fnQueryUnescape", inPlace := ["internal/abi.NoEscape", "internal/bytealg.MakeNoZero"], named := ["signwriter/pub/neturl.table"], apart := false, laid := [("signwriter/pub/neturl.table", laid_signwriter_pub_neturl_table)] }
def FnQueryUnescapeSaid : Prop := fnQueryUnescapeRow.holds Tryd.pinned (OpenSpec.ofChange fnQueryUnescapeSpec)

/-- ITS FALSE NEIGHBOUR: 'it returns false'. Refute it at one input. -/
def fnQueryUnescapeWrong : ChangeSpec := { name := "fnQueryUnescape", fn := fun _ => fun
  | [d] => { results := [.lit (.bool false)], args := [d] }
  | _ => none }
def FnQueryUnescapeWrongFalsely : Prop := fnQueryUnescapeRow.holds Tryd.pinned (OpenSpec.ofChange fnQueryUnescapeWrong)

/-- 'laws.FnPathEscape': WHATEVER THE INPUT: true; the input reads as it did. -/
def fnPathEscapeSpec : ChangeSpec := { name := "fnPathEscape", fn := fun _ => fun
  | [d] => { results := [.lit (.bool true)], args := [d] }
  | _ => none }
def fnPathEscapeRow : OpenClaim := { program := "ytcbmfimafiolaaadoor", sum := "1f4b95c8bb0894eb507c7b34930c62f46d71a07937cf0494c751138a51bb12fb", func := "signwriter/laws.FnPathEscape", spec := "fnPathEscape", inPlace := ["internal/abi.NoEscape", "internal/bytealg.MakeNoZero"], named := ["signwriter/pub/neturl.table"], apart := false, laid := [("signwriter/pub/neturl.table", laid_signwriter_pub_neturl_table)] }
def FnPathEscapeSaid : Prop := fnPathEscapeRow.holds Tryd.pinned (OpenSpec.ofChange fnPathEscapeSpec)

/-- ITS FALSE NEIGHBOUR: 'it returns false'. Refute it at one input. -/
def fnPathEscapeWrong : ChangeSpec := { name := "fnPathEscape", fn := fun _ => fun
  | [d] => { results := [.lit (.bool false)], args := [d] }
  | _ => none }
def FnPathEscapeWrongFalsely : Prop := fnPathEscapeRow.holds Tryd.pinned (OpenSpec.ofChange fnPathEscapeWrong)

/-- 'laws.FnQueryEscape': WHATEVER THE INPUT: true; the input reads as it did. -/
def fnQueryEscapeSpec : ChangeSpec := { name := "fnQueryEscape", fn := fun _ => fun
  | [d] => { results := [.lit (.bool true)], args := [d] }
  | _ => none }
def fnQueryEscapeRow : OpenClaim := { program := "ytcbmfimafiolaaadoor", sum := "1f4b95c8bb0894eb507c7b34930c62f46d71a07937cf0494c751138a51bb12fb", func := "signwriter/laws.FnQueryEscape", spec := "fnQueryEscape", inPlace := ["internal/abi.NoEscape", "internal/bytealg.MakeNoZero"], named := ["signwriter/pub/neturl.table"], apart := false, laid := [("signwriter/pub/neturl.table", laid_signwriter_pub_neturl_table)] }
def FnQueryEscapeSaid : Prop := fnQueryEscapeRow.holds Tryd.pinned (OpenSpec.ofChange fnQueryEscapeSpec)

/-- ITS FALSE NEIGHBOUR: 'it returns false'. Refute it at one input. -/
def fnQueryEscapeWrong : ChangeSpec := { name := "fnQueryEscape", fn := fun _ => fun
  | [d] => { results := [.lit (.bool false)], args := [d] }
  | _ => none }
def FnQueryEscapeWrongFalsely : Prop := fnQueryEscapeRow.holds Tryd.pinned (OpenSpec.ofChange fnQueryEscapeWrong)

/-- 'laws.FnEscapedPath': WHATEVER THE INPUT: true; the input reads as it did. -/
def fnEscapedPathSpec : ChangeSpec := { name := "fnEscapedPath", fn := fun _ => fun
  | [d1, d2] => { results := [.lit (.bool true)], args := [d1, d2] }
  | _ => none }
def fnEscapedPathRow : OpenClaim := { program := "ytcbmfimafiolaaadoor", sum := "1f4b95c8bb0894eb507c7b34930c62f46d71a07937cf0494c751138a51bb12fb", func := "signwriter/laws.FnEscapedPath", spec := "fnEscapedPath", inPlace := ["internal/abi.NoEscape", "internal/bytealg.MakeNoZero"], named := ["signwriter/pub/neturl.table"], apart := false, laid := [("signwriter/pub/neturl.table", laid_signwriter_pub_neturl_table)] }
def FnEscapedPathSaid : Prop := fnEscapedPathRow.holds Tryd.pinned (OpenSpec.ofChange fnEscapedPathSpec)

/-- ITS FALSE NEIGHBOUR: 'it returns false'. Refute it at one input. -/
def fnEscapedPathWrong : ChangeSpec := { name := "fnEscapedPath", fn := fun _ => fun
  | [d1, d2] => { results := [.lit (.bool false)], args := [d1, d2] }
  | _ => none }
def FnEscapedPathWrongFalsely : Prop := fnEscapedPathRow.holds Tryd.pinned (OpenSpec.ofChange fnEscapedPathWrong)

/- THE SECOND FORM. 'bulk': how many values and letters a reading holds, each counted each time it is reached (what is shared counts as often as it is met; a slice's spare places count too). A statement '..UptoSaid' is the law's where the arguments, and the package variables that the reading takes, are together of bulk at most 1048576: NARROWER than '..Said'. Prove '..Said' where nothing that the law and all that it calls make is longer than what came in: it says more and counts as full. Else prove '..UptoSaid'. A law counts once. -/
mutual
def uptoBulk {H : Type} : DataW H → Nat
  | .lit (.string bytes) => bytes.length + 1
  | .lit _ => 1
  | .nil => 1
  | .ptr d => uptoBulk d + 1
  | .slice elems spare => uptoBulkAll elems + uptoBulkAll spare + 1
  | .agg parts => uptoBulkAll parts + 1
  | .iface _ d => uptoBulk d + 1
  | .map entries => uptoBulkEntries entries + 1
  | .held _ => 1
def uptoBulkAll {H : Type} : List (DataW H) → Nat
  | [] => 0
  | d :: r => uptoBulk d + uptoBulkAll r
def uptoBulkEntries {H : Type} : List (Lit × DataW H) → Nat
  | [] => 0
  | x :: r => uptoBulkEntry x + uptoBulkEntries r
def uptoBulkEntry {H : Type} : Lit × DataW H → Nat
  | (.string bytes, d) => bytes.length + uptoBulk d + 1
  | (_, d) => uptoBulk d + 1
 end
def uptoSmall : (H : Type) → List (DataW H) → Bool := fun _ ds => decide (uptoBulkAll ds ≤ 1048576)
def OpenSpec.upto (s : _root_.Go.ChangeSpec) : _root_.Go.OpenSpec := { _root_.Go.OpenSpec.ofChange s with cond := some uptoSmall }

/-- 'laws.FnEscape', WHERE WHAT IT READS IS OF BULK AT MOST 1048576: true; the input reads as it did. -/
def fnEscapeUptoRow : OpenClaim := { program := "ytcbmfimafiolaaadoor", sum := "1f4b95c8bb0894eb507c7b34930c62f46d71a07937cf0494c751138a51bb12fb", func := "signwriter/laws.FnEscape", spec := "fnEscape", named := ["signwriter/pub/neturl.table"], apart := false, laid := [("signwriter/pub/neturl.table", laid_signwriter_pub_neturl_table)], narrowed := true }
def FnEscapeUptoSaid : Prop := fnEscapeUptoRow.holds Tryd.pinned (OpenSpec.upto fnEscapeSpec)

/-- 'laws.FnPathUnescape', WHERE WHAT IT READS IS OF BULK AT MOST 1048576: true; the input reads as it did. -/
def fnPathUnescapeUptoRow : OpenClaim := { program := "ytcbmfimafiolaaadoor", sum := "1f4b95c8bb0894eb507c7b34930c62f46d71a07937cf0494c751138a51bb12fb", func := "signwriter/laws.FnPathUnescape", spec := "fnPathUnescape", inPlace := ["internal/abi.NoEscape", "internal/bytealg.MakeNoZero"], named := ["signwriter/pub/neturl.table"], apart := false, laid := [("signwriter/pub/neturl.table", laid_signwriter_pub_neturl_table)], narrowed := true }
def FnPathUnescapeUptoSaid : Prop := fnPathUnescapeUptoRow.holds Tryd.pinned (OpenSpec.upto fnPathUnescapeSpec)

/-- 'laws.FnQueryUnescape', WHERE WHAT IT READS IS OF BULK AT MOST 1048576: true; the input reads as it did. -/
def fnQueryUnescapeUptoRow : OpenClaim := { program := "ytcbmfimafiolaaadoor", sum := "1f4b95c8bb0894eb507c7b34930c62f46d71a07937cf0494c751138a51bb12fb", func := "signwriter/laws.FnQueryUnescape", spec := "fnQueryUnescape", inPlace := ["internal/abi.NoEscape", "internal/bytealg.MakeNoZero"], named := ["signwriter/pub/neturl.table"], apart := false, laid := [("signwriter/pub/neturl.table", laid_signwriter_pub_neturl_table)], narrowed := true }
def FnQueryUnescapeUptoSaid : Prop := fnQueryUnescapeUptoRow.holds Tryd.pinned (OpenSpec.upto fnQueryUnescapeSpec)

/-- 'laws.FnPathEscape', WHERE WHAT IT READS IS OF BULK AT MOST 1048576: true; the input reads as it did. -/
def fnPathEscapeUptoRow : OpenClaim := { program := "ytcbmfimafiolaaadoor", sum := "1f4b95c8bb0894eb507c7b34930c62f46d71a07937cf0494c751138a51bb12fb", func := "signwriter/laws.FnPathEscape", spec := "fnPathEscape", inPlace := ["internal/abi.NoEscape", "internal/bytealg.MakeNoZero"], named := ["signwriter/pub/neturl.table"], apart := false, laid := [("signwriter/pub/neturl.table", laid_signwriter_pub_neturl_table)], narrowed := true }
def FnPathEscapeUptoSaid : Prop := fnPathEscapeUptoRow.holds Tryd.pinned (OpenSpec.upto fnPathEscapeSpec)

/-- 'laws.FnQueryEscape', WHERE WHAT IT READS IS OF BULK AT MOST 1048576: true; the input reads as it did. -/
def fnQueryEscapeUptoRow : OpenClaim := { program := "ytcbmfimafiolaaadoor", sum := "1f4b95c8bb0894eb507c7b34930c62f46d71a07937cf0494c751138a51bb12fb", func := "signwriter/laws.FnQueryEscape", spec := "fnQueryEscape", inPlace := ["internal/abi.NoEscape", "internal/bytealg.MakeNoZero"], named := ["signwriter/pub/neturl.table"], apart := false, laid := [("signwriter/pub/neturl.table", laid_signwriter_pub_neturl_table)], narrowed := true }
def FnQueryEscapeUptoSaid : Prop := fnQueryEscapeUptoRow.holds Tryd.pinned (OpenSpec.upto fnQueryEscapeSpec)

/-- 'laws.FnEscapedPath', WHERE WHAT IT READS IS OF BULK AT MOST 1048576: true; the input reads as it did. -/
def fnEscapedPathUptoRow : OpenClaim := { program := "ytcbmfimafiolaaadoor", sum := "1f4b95c8bb0894eb507c7b34930c62f46d71a07937cf0494c751138a51bb12fb", func := "signwriter/laws.FnEscapedPath", spec := "fnEscapedPath", inPlace := ["internal/abi.NoEscape", "internal/bytealg.MakeNoZero"], named := ["signwriter/pub/neturl.table"], apart := false, laid := [("signwriter/pub/neturl.table", laid_signwriter_pub_neturl_table)], narrowed := true }
def FnEscapedPathUptoSaid : Prop := fnEscapedPathUptoRow.holds Tryd.pinned (OpenSpec.upto fnEscapedPathSpec)

end Rows
end Go.Proofs.YtcbmfimafiolaaaDoor
