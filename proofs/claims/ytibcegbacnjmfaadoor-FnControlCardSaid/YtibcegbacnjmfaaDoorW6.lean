import Derived.Test.YtibcegbacnjmfaaDoorW5
namespace Go.Proofs.YtibcegbacnjmfaaDoor
set_option linter.unusedVariables false
set_option linter.unusedSimpArgs false
open Go.RowKit

theorem drewN_ex (w : World) (a b : Nat) : ∃ n, (w.drewN a).drewN b = w.drewN n := ⟨_, World.drewN_drewN _ _ _⟩
theorem nil_of_empty {s : ByteArray} (h : s.toList = []) : L s = [] := by rw [← h, Lib.toList_data]
def strSize : Value → Nat
  | .string t => t.size
  | _ => 0
theorem isHex_true {c : UInt8} (h : 0 ≤ NU.hexv c) : NU.isHex c = true := by simp [NU.isHex, h]
theorem isHex_false {c : UInt8} (h : NU.hexv c < 0) : NU.isHex c = false := by simp [NU.isHex, h]

end Go.Proofs.YtibcegbacnjmfaaDoor
