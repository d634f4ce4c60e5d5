/-
  No cell of these rows narrows 'for every input' (looked for: loops, veiled, ifaces, maps, wideKeys, modest, calm, conditions, laid).
  DERIVED. THE GIVEN ROWS OF THIS SEAT. 6 by the template 'for every input the law returns true; each argument reads behind the call as it read before'; 0 by the template 'total and deterministic' (their statements: YtcbmfimafiolaaaTotals.lean).
  GIVEN WITH THE SEED: the statements are not yours to turn. If you find one false, say at which input.
  Laid BY PROGRAM, IN A SANDBOX (cutbox-rows.mjs): the forced cells as the released guide's own fill.sh prints them over the translation 406b63201d890d0c… (all of the seat's roots in one cut). By AI agents, Wed Nov 11 2026. No macro, syntax, notation, axiom, sorry.
-/
import Derived.Test.YtcbmfimafiolaaaChecked
import GoSem.Claim
import GoSem.ClaimJoined
import GoSem.ClaimMapViews
import Derived.JoinedTies
import Derived.KernelRfl
namespace Go.Proofs.Ytcbmfimafiolaaa
/- THE CELL 'sum', in the pinned program and in every row, IS THE sha256 OF THE DUMP (.gsa) THAT YtcbmfimafiolaaaProg.lean LOADS. Nothing in Lean hashes anything: it is a label: what it is worth is what the hold of that sum in a sandbox is worth. -/
noncomputable def Try.pinned : Pinned := { name := "ytcbmfimafiolaaa", sum := "406b63201d890d0c7052eda0fd20e825d9a92bf174b4a104d02073da4170ebf8", checked := Try.checked }
namespace Rows
def none {H : Type} : Left H := { results := [], args := [] }

/-- 'laws.FnOptionalPort': WHATEVER THE INPUT: true; the input reads as it did. -/
def fnOptionalPortSpec : ChangeSpec := { name := "fnOptionalPort", fn := fun _ => fun
  | [d] => { results := [.lit (.bool true)], args := [d] }
  | _ => none }
def fnOptionalPortRow : OpenClaim := { program := "ytcbmfimafiolaaa", sum := "406b63201d890d0c7052eda0fd20e825d9a92bf174b4a104d02073da4170ebf8", func := "signwriter/laws.FnOptionalPort", spec := "fnOptionalPort", apart := false }
def FnOptionalPortSaid : Prop := fnOptionalPortRow.holds Try.pinned (OpenSpec.ofChange fnOptionalPortSpec)

/-- ITS FALSE NEIGHBOUR: 'it returns false'. Refute it at one input. -/
def fnOptionalPortWrong : ChangeSpec := { name := "fnOptionalPort", fn := fun _ => fun
  | [d] => { results := [.lit (.bool false)], args := [d] }
  | _ => none }
def FnOptionalPortWrongFalsely : Prop := fnOptionalPortRow.holds Try.pinned (OpenSpec.ofChange fnOptionalPortWrong)

/-- 'laws.FnScheme': WHATEVER THE INPUT: true; the input reads as it did. -/
def fnSchemeSpec : ChangeSpec := { name := "fnScheme", fn := fun _ => fun
  | [d] => { results := [.lit (.bool true)], args := [d] }
  | _ => none }
def fnSchemeRow : OpenClaim := { program := "ytcbmfimafiolaaa", sum := "406b63201d890d0c7052eda0fd20e825d9a92bf174b4a104d02073da4170ebf8", func := "signwriter/laws.FnScheme", spec := "fnScheme", apart := false }
def FnSchemeSaid : Prop := fnSchemeRow.holds Try.pinned (OpenSpec.ofChange fnSchemeSpec)

/-- ITS FALSE NEIGHBOUR: 'it returns false'. Refute it at one input. -/
def fnSchemeWrong : ChangeSpec := { name := "fnScheme", fn := fun _ => fun
  | [d] => { results := [.lit (.bool false)], args := [d] }
  | _ => none }
def FnSchemeWrongFalsely : Prop := fnSchemeRow.holds Try.pinned (OpenSpec.ofChange fnSchemeWrong)

/-- 'laws.FnUserinfo': WHATEVER THE INPUT: true; the input reads as it did. -/
def fnUserinfoSpec : ChangeSpec := { name := "fnUserinfo", fn := fun _ => fun
  | [d] => { results := [.lit (.bool true)], args := [d] }
  | _ => none }
def fnUserinfoRow : OpenClaim := { program := "ytcbmfimafiolaaa", sum := "406b63201d890d0c7052eda0fd20e825d9a92bf174b4a104d02073da4170ebf8", func := "signwriter/laws.FnUserinfo", spec := "fnUserinfo", apart := false }
def FnUserinfoSaid : Prop := fnUserinfoRow.holds Try.pinned (OpenSpec.ofChange fnUserinfoSpec)

/-- ITS FALSE NEIGHBOUR: 'it returns false'. Refute it at one input. -/
def fnUserinfoWrong : ChangeSpec := { name := "fnUserinfo", fn := fun _ => fun
  | [d] => { results := [.lit (.bool false)], args := [d] }
  | _ => none }
def FnUserinfoWrongFalsely : Prop := fnUserinfoRow.holds Try.pinned (OpenSpec.ofChange fnUserinfoWrong)

/-- 'laws.FnHostPort': WHATEVER THE INPUT: true; the input reads as it did. -/
def fnHostPortSpec : ChangeSpec := { name := "fnHostPort", fn := fun _ => fun
  | [d] => { results := [.lit (.bool true)], args := [d] }
  | _ => none }
def fnHostPortRow : OpenClaim := { program := "ytcbmfimafiolaaa", sum := "406b63201d890d0c7052eda0fd20e825d9a92bf174b4a104d02073da4170ebf8", func := "signwriter/laws.FnHostPort", spec := "fnHostPort", apart := false }
def FnHostPortSaid : Prop := fnHostPortRow.holds Try.pinned (OpenSpec.ofChange fnHostPortSpec)

/-- ITS FALSE NEIGHBOUR: 'it returns false'. Refute it at one input. -/
def fnHostPortWrong : ChangeSpec := { name := "fnHostPort", fn := fun _ => fun
  | [d] => { results := [.lit (.bool false)], args := [d] }
  | _ => none }
def FnHostPortWrongFalsely : Prop := fnHostPortRow.holds Try.pinned (OpenSpec.ofChange fnHostPortWrong)

/-- 'laws.FnHostname': WHATEVER THE INPUT: true; the input reads as it did. -/
def fnHostnameSpec : ChangeSpec := { name := "fnHostname", fn := fun _ => fun
  | [d1, d2, d3] => { results := [.lit (.bool true)], args := [d1, d2, d3] }
  | _ => none }
def fnHostnameRow : OpenClaim := { program := "ytcbmfimafiolaaa", sum := "406b63201d890d0c7052eda0fd20e825d9a92bf174b4a104d02073da4170ebf8", func := "signwriter/laws.FnHostname", spec := "fnHostname", apart := false }
def FnHostnameSaid : Prop := fnHostnameRow.holds Try.pinned (OpenSpec.ofChange fnHostnameSpec)

/-- ITS FALSE NEIGHBOUR: 'it returns false'. Refute it at one input. -/
def fnHostnameWrong : ChangeSpec := { name := "fnHostname", fn := fun _ => fun
  | [d1, d2, d3] => { results := [.lit (.bool false)], args := [d1, d2, d3] }
  | _ => none }
def FnHostnameWrongFalsely : Prop := fnHostnameRow.holds Try.pinned (OpenSpec.ofChange fnHostnameWrong)

/-- 'laws.FnResolvePath': WHATEVER THE INPUT: true; the input reads as it did. -/
def fnResolvePathSpec : ChangeSpec := { name := "fnResolvePath", fn := fun _ => fun
  | [d1, d2] => { results := [.lit (.bool true)], args := [d1, d2] }
  | _ => none }
def fnResolvePathRow : OpenClaim := { program := "ytcbmfimafiolaaa", sum := "406b63201d890d0c7052eda0fd20e825d9a92bf174b4a104d02073da4170ebf8", func := "signwriter/laws.FnResolvePath", spec := "fnResolvePath", unfollowed := true, recurses := true, apart := false }
def FnResolvePathSaid : Prop := fnResolvePathRow.holds Try.pinned (OpenSpec.ofChange fnResolvePathSpec)

/-- ITS FALSE NEIGHBOUR: 'it returns false'. Refute it at one input. -/
def fnResolvePathWrong : ChangeSpec := { name := "fnResolvePath", fn := fun _ => fun
  | [d1, d2] => { results := [.lit (.bool false)], args := [d1, d2] }
  | _ => none }
def FnResolvePathWrongFalsely : Prop := fnResolvePathRow.holds Try.pinned (OpenSpec.ofChange fnResolvePathWrong)

/- THE SECOND FORM. 'bulk': how many values and letters a reading holds, each counted each time it is reached (what is shared counts as often as it is met; a slice's spare places count too). A statement '..UptoSaid' is the law's where the arguments, and the package variables that the reading takes, are together of bulk at most 1048576: NARROWER than '..Said'. Prove '..Said' where nothing that the law and all that it calls make is longer than what came in: it says more and counts as full. Else prove '..UptoSaid'. A law counts once. -/
mutual
def uptoBulk {H : Type} : DataW H → Nat
  | .lit (.string bytes) => bytes.length + 1
  | .lit _ => 1
  | .nil => 1
  | .ptr d => uptoBulk d + 1
  | .slice elems spare => uptoBulkAll elems + uptoBulkAll spare + 1
  | .agg parts => uptoBulkAll parts + 1
  | .iface _ d => uptoBulk d + 1
  | .map entries => uptoBulkEntries entries + 1
  | .held _ => 1
def uptoBulkAll {H : Type} : List (DataW H) → Nat
  | [] => 0
  | d :: r => uptoBulk d + uptoBulkAll r
def uptoBulkEntries {H : Type} : List (Lit × DataW H) → Nat
  | [] => 0
  | x :: r => uptoBulkEntry x + uptoBulkEntries r
def uptoBulkEntry {H : Type} : Lit × DataW H → Nat
  | (.string bytes, d) => bytes.length + uptoBulk d + 1
  | (_, d) => uptoBulk d + 1
 end
def uptoSmall : (H : Type) → List (DataW H) → Bool := fun _ ds => decide (uptoBulkAll ds ≤ 1048576)
def OpenSpec.upto (s : _root_.Go.ChangeSpec) : _root_.Go.OpenSpec := { _root_.Go.OpenSpec.ofChange s with cond := some uptoSmall }

/-- 'laws.FnOptionalPort', WHERE WHAT IT READS IS OF BULK AT MOST 1048576: true; the input reads as it did. -/
def fnOptionalPortUptoRow : OpenClaim := { program := "ytcbmfimafiolaaa", sum := "406b63201d890d0c7052eda0fd20e825d9a92bf174b4a104d02073da4170ebf8", func := "signwriter/laws.FnOptionalPort", spec := "fnOptionalPort", apart := false, narrowed := true }
def FnOptionalPortUptoSaid : Prop := fnOptionalPortUptoRow.holds Try.pinned (OpenSpec.upto fnOptionalPortSpec)

/-- 'laws.FnScheme', WHERE WHAT IT READS IS OF BULK AT MOST 1048576: true; the input reads as it did. -/
def fnSchemeUptoRow : OpenClaim := { program := "ytcbmfimafiolaaa", sum := "406b63201d890d0c7052eda0fd20e825d9a92bf174b4a104d02073da4170ebf8", func := "signwriter/laws.FnScheme", spec := "fnScheme", apart := false, narrowed := true }
def FnSchemeUptoSaid : Prop := fnSchemeUptoRow.holds Try.pinned (OpenSpec.upto fnSchemeSpec)

/-- 'laws.FnUserinfo', WHERE WHAT IT READS IS OF BULK AT MOST 1048576: true; the input reads as it did. -/
def fnUserinfoUptoRow : OpenClaim := { program := "ytcbmfimafiolaaa", sum := "406b63201d890d0c7052eda0fd20e825d9a92bf174b4a104d02073da4170ebf8", func := "signwriter/laws.FnUserinfo", spec := "fnUserinfo", apart := false, narrowed := true }
def FnUserinfoUptoSaid : Prop := fnUserinfoUptoRow.holds Try.pinned (OpenSpec.upto fnUserinfoSpec)

/-- 'laws.FnHostPort', WHERE WHAT IT READS IS OF BULK AT MOST 1048576: true; the input reads as it did. -/
def fnHostPortUptoRow : OpenClaim := { program := "ytcbmfimafiolaaa", sum := "406b63201d890d0c7052eda0fd20e825d9a92bf174b4a104d02073da4170ebf8", func := "signwriter/laws.FnHostPort", spec := "fnHostPort", apart := false, narrowed := true }
def FnHostPortUptoSaid : Prop := fnHostPortUptoRow.holds Try.pinned (OpenSpec.upto fnHostPortSpec)

/-- 'laws.FnHostname', WHERE WHAT IT READS IS OF BULK AT MOST 1048576: true; the input reads as it did. -/
def fnHostnameUptoRow : OpenClaim := { program := "ytcbmfimafiolaaa", sum := "406b63201d890d0c7052eda0fd20e825d9a92bf174b4a104d02073da4170ebf8", func := "signwriter/laws.FnHostname", spec := "fnHostname", apart := false, narrowed := true }
def FnHostnameUptoSaid : Prop := fnHostnameUptoRow.holds Try.pinned (OpenSpec.upto fnHostnameSpec)

/-- 'laws.FnResolvePath', WHERE WHAT IT READS IS OF BULK AT MOST 1048576: true; the input reads as it did. -/
def fnResolvePathUptoRow : OpenClaim := { program := "ytcbmfimafiolaaa", sum := "406b63201d890d0c7052eda0fd20e825d9a92bf174b4a104d02073da4170ebf8", func := "signwriter/laws.FnResolvePath", spec := "fnResolvePath", unfollowed := true, recurses := true, apart := false, narrowed := true }
def FnResolvePathUptoSaid : Prop := fnResolvePathUptoRow.holds Try.pinned (OpenSpec.upto fnResolvePathSpec)

end Rows
end Go.Proofs.Ytcbmfimafiolaaa
