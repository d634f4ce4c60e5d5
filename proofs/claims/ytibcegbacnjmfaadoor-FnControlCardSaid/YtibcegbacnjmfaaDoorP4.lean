/-
  Plain Lean: the parts of a reference by the expression of RFC 3986, appendix B.
-/
import Derived.Test.YtibcegbacnjmfaaDoorP3
namespace NU
set_option linter.unusedVariables false
set_option linter.unusedSimpArgs false
def spI (s : Bytes) : Nat := index s [58, 47, 63, 35]
def spS (s : Bytes) : Bool := decide (0 < spI s) && decide (spI s < s.length) && ((s.drop (spI s)).head? == some 58)
def spScheme (s : Bytes) : Bytes := if spS s then s.take (spI s) else []
def sp1 (s : Bytes) : Bytes := if spS s then s.drop (spI s + 1) else s
def spA (s : Bytes) : Bool := begins (sp1 s) [47, 47]
def spAI (s : Bytes) : Nat := index ((sp1 s).drop 2) [47, 63, 35]
def spAuth (s : Bytes) : Bytes := if spA s then ((sp1 s).drop 2).take (spAI s) else []
def sp2 (s : Bytes) : Bytes := if spA s then ((sp1 s).drop 2).drop (spAI s) else sp1 s
def spPI (s : Bytes) : Nat := index (sp2 s) [63, 35]
def spPath (s : Bytes) : Bytes := (sp2 s).take (spPI s)
def sp3 (s : Bytes) : Bytes := (sp2 s).drop (spPI s)
def spQ (s : Bytes) : Bool := begins (sp3 s) [63]
def spQI (s : Bytes) : Nat := index (sp3 s) [35]
def spQuery (s : Bytes) : Bytes := if spQ s then ((sp3 s).drop 1).take (spQI s - 1) else []
def sp4 (s : Bytes) : Bytes := if spQ s then (sp3 s).drop (spQI s) else sp3 s
def spF (s : Bytes) : Bool := begins (sp4 s) [35]
def spFrag (s : Bytes) : Bytes := if spF s then (sp4 s).drop 1 else []
theorem sp1_le (s : Bytes) : (sp1 s).length ≤ s.length := by unfold sp1; split; simp; omega
theorem sp2_le (s : Bytes) : (sp2 s).length ≤ s.length := by have := sp1_le s; unfold sp2; split <;> simp <;> omega
theorem sp3_le (s : Bytes) : (sp3 s).length ≤ s.length := by have := sp2_le s; unfold sp3; simp; omega
theorem sp4_le (s : Bytes) : (sp4 s).length ≤ s.length := by have := sp3_le s; unfold sp4; split <;> simp <;> omega
end NU
