import Derived.Test.YtcbmfimafiolaaaDoorW2
namespace Go.Proofs.YtcbmfimafiolaaaDoor
set_option linter.unusedVariables false
set_option linter.unusedSimpArgs false
open Go.RowKit

def mk (l : List UInt8) : ByteArray := ⟨l.toArray⟩
theorem L_mk (l : List UInt8) : L (mk l) = l := rfl
theorem mk_L (s : ByteArray) : mk (L s) = s := Lib.mk_data s
theorem mk_size (l : List UInt8) : (mk l).size = l.length := by simp [mk, ByteArray.size]
theorem L_length (s : ByteArray) : (L s).length = s.size := by simp
theorem ext_mk (s : ByteArray) (a b : Nat) : s.extract a b = mk (((L s).drop a).take (b - a)) := Lib.extract_eq s a b
theorem ext_to (s : ByteArray) (b : Nat) : s.extract 0 b = mk ((L s).take b) := by rw [ext_mk]; simp
theorem ext_from (s : ByteArray) (a : Nat) : s.extract a s.size = mk ((L s).drop a) := by
  rw [ext_mk, List.take_of_length_le]; simp
theorem eq_L {s t : ByteArray} (h : L s = L t) : s = t := by rw [← mk_L s, ← mk_L t, h]
theorem beq_L (s t : ByteArray) : (s.toList == t.toList) = (L s == L t) := by rw [Lib.toList_data, Lib.toList_data]
theorem ret_str {a b : ByteArray} (h : a = b) : Ending.returned (.string a) = .returned (.string b) := by rw [h]
theorem ret_ss {a b c d : ByteArray} (h : a = c) (h' : b = d) : Ending.returned (.tuple #[.string a, .string b]) = .returned (.tuple #[.string c, .string d]) := by rw [h, h']
theorem ret_sb {a b : ByteArray} {p q : Bool} (h : a = b) (h' : p = q) : Ending.returned (.tuple #[.string a, .bool p]) = .returned (.tuple #[.string b, .bool q]) := by rw [h, h']
theorem ret_bb {a b c d : Bool} (h : a = c) (h' : b = d) : Ending.returned (.tuple #[.bool a, .bool b]) = .returned (.tuple #[.bool c, .bool d]) := by rw [h, h']
theorem ret_ssb {a b c d : ByteArray} {p q : Bool} (h : a = c) (h' : b = d) (h2 : p = q) : Ending.returned (.tuple #[.string a, .string b, .bool p]) = .returned (.tuple #[.string c, .string d, .bool q]) := by rw [h, h', h2]

theorem eq_lits (t : ByteArray) (l : List UInt8) (h : L t = l) : (t.toList == l) = true := by rw [Lib.toList_data]; simpa using h
theorem ne_lits (t : ByteArray) (l : List UInt8) (h : ¬ L t = l) : (t.toList == l) = false := by rw [Lib.toList_data]; simpa using h
theorem L_app (a b : ByteArray) : L (a ++ b) = L a ++ L b := by simp [L]
theorem L_empty {s : ByteArray} (h : L s = []) : s.toList = [] := by rw [Lib.toList_data]; exact h
theorem L_nempty {s : ByteArray} (h : ¬ L s = []) : s.toList.isEmpty = false := by rw [Lib.toList_data]; simpa using h

end Go.Proofs.YtcbmfimafiolaaaDoor
