import Derived.Test.YtlholchmgheemaaDoorW3
import Derived.Laws.RangeAny
namespace Go.Proofs.YtlholchmgheemaaDoor
set_option linter.unusedVariables false
set_option linter.unusedSimpArgs false
open Go.RowKit

theorem decode_hi (s : ByteArray) (pos : Nat) (h : pos < s.size) (ha : ¬ (s[pos]'h).toNat < 128) : 128 ≤ (Utf8.decode s pos).1 ∧ 1 ≤ (Utf8.decode s pos).2 := decode_high s pos h (by omega)
theorem Fr.iter {a b : World} (h : Fr a b) (s : ByteArray) (p : Nat) : Fr a (b.iter s p) := h.alloc _
theorem drop_cons' (l : List UInt8) (k : Nat) (s : ByteArray) (hs : L s = l) (h : k < s.size) : l.drop k = s[k] :: l.drop (k + 1) := by subst hs; exact drop_cons s k h

end Go.Proofs.YtlholchmgheemaaDoor
