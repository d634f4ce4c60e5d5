import Derived.Test.YtlholchmgheemaaDoorW26
import Derived.Test.YtlholchmgheemaaDoorW25
import Derived.Test.YtlholchmgheemaaDoorP
namespace Go.Proofs.YtlholchmgheemaaDoor
set_option linter.unusedVariables false
set_option linter.unusedSimpArgs false
open Go.RowKit

theorem elem_take (s : ByteArray) (k : Nat) (h : k < s.size) (c : UInt8) (hc : c = s[k]) : NU.elem ((L s).take (k + 1)) = NU.elem ((L s).take k) ++ NU.elem1 c := by
  have e1 : (L s).take (k + 1) = (L s).take k ++ [c] := by
    rw [List.take_succ_eq_append_getElem (by rw [L_length]; exact h), hc]; rfl
  rw [e1, NU.elem_app]; simp [NU.elem]
theorem one_ext (s : ByteArray) (k : Nat) (h : k < s.size) (c : UInt8) (hc : c = s[k]) : L (s.extract k (k + 1)) = [c] := by
  rw [ext_mk, L_mk, drop_cons s k h, ← hc, show k + 1 - k = 1 by omega]; rfl
theorem digs_ext (x : UInt8) (k : Nat) (hk : k = x.toNat) (h : k < 16) : (⟨#[48, 49, 50, 51, 52, 53, 54, 55, 56, 57, 65, 66, 67, 68, 69, 70]⟩ : ByteArray).extract k (k + 1) = mk [NU.hexU x] := by
  subst hk
  apply eq_L
  have hs : (⟨#[48, 49, 50, 51, 52, 53, 54, 55, 56, 57, 65, 66, 67, 68, 69, 70]⟩ : ByteArray).size = 16 := rfl
  rw [one_ext _ _ (by omega) (NU.hexU x) (hexd_at x _ rfl _).symm, L_mk]
theorem mk_app (a b : List UInt8) : mk a ++ mk b = mk (a ++ b) := by apply eq_L; rw [L_app, L_mk, L_mk, L_mk]

theorem QueryEscape_any (s : ByteArray) (hs : s.size ≤ 1099511627776) (w : World) (ht : Hid (Tab w)) :
    Calls Tryd.prog 28 #[.string s] w fun e w' => e = .returned (.string (mk (NU.esc 32 (L s)))) ∧ Fr w w' := by
  have C := Lib.hid (escape_m s 32 32 rfl hs)
  go_enter Tryd.func28, Tryd.ntmps28
  go_wp2_with (go_at_call 39; (with_reducible refine (C.out _ ht).mono ?_); rintro e w1 ⟨rfl, hf1⟩)
  go_ret
  exact ⟨rfl, hf1⟩
theorem implEscape_any (s : ByteArray) (hs : s.size ≤ 1099511627776) (w : World) (ht : Hid (Tab w)) :
    Calls Tryd.prog 17 #[.string s] w fun e w' => e = .returned (.string (mk (NU.esc 32 (L s)))) ∧ Fr w w' := by
  have C := Lib.hid (QueryEscape_any s hs)
  go_enter Tryd.func17, Tryd.ntmps17
  go_wp2_with (go_at_call 28; (with_reducible refine (C.out _ ht).mono ?_); rintro e w1 ⟨rfl, hf1⟩)
  go_ret
  exact ⟨rfl, hf1⟩
end Go.Proofs.YtlholchmgheemaaDoor
