/-
  Plain Lean: an authority, and which references are valid.
-/
import Derived.Test.YtibcegbacnjmfaaDoorP4
namespace NU
set_option linter.unusedVariables false
set_option linter.unusedSimpArgs false
def auI (s : Bytes) : Nat := index s [64]
def auU (s : Bytes) : Bool := decide (auI s < s.length)
def auUser (s : Bytes) : Bytes := if auU s then s.take (auI s) else []
def auRest (s : Bytes) : Bytes := if auU s then s.drop (auI s + 1) else s
def auUok (s : Bytes) : Bool := !auU s || chars [58] true (auUser s)
def auHost (s : Bytes) : Bytes := if auUok s then auRest s else []
def auHok (h : Bytes) : Bool :=
  if begins h [91] then decide (index h [93] < h.length) && isIPv6 ((h.take (index h [93])).drop 1)
  else chars [] false (h.take (index h [58]))
def auS (h : Bytes) : Bytes := if begins h [91] then h.drop (index h [93] + 1) else h.drop (index h [58])
def auOk (s : Bytes) : Bool := auUok s && auHok (auRest s) && optPort (auS (auRest s))
theorem auRest_le (s : Bytes) : (auRest s).length ≤ s.length := by unfold auRest; split; simp; omega
theorem auUser_le (s : Bytes) : (auUser s).length ≤ s.length := by unfold auUser; split <;> simp; omega
theorem auS_le (s : Bytes) : (auS s).length ≤ s.length := by unfold auS; split <;> simp
def validR (hs : Bool) (sc : Bytes) (ha : Bool) (au pa qu fr : Bytes) : Bool :=
  !(hs && !schm sc) && chars [58, 64, 47] true pa && chars [58, 64, 47, 63] true qu && chars [58, 64, 47, 63] true fr &&
  (if ha then auOk au && (pa.isEmpty || pa.head? == some 47)
   else !begins pa [47, 47] && (hs || decide (index (pa.take (index pa [47])) [58] = index pa [47])))
def valid (s : Bytes) : Bool := validR (spS s) (spScheme s) (spA s) (spAuth s) (spPath s) (spQuery s) (spFrag s)
end NU
