import Derived.Test.YtlholchmgheemaaDoorW22
import Derived.Test.YtlholchmgheemaaDoorW23
namespace Go.Proofs.YtlholchmgheemaaDoor
set_option linter.unusedVariables false
set_option linter.unusedSimpArgs false
open Go.RowKit

theorem urlQueryUnescape_any (s : ByteArray) (w : World) (ht : Tab w) (hs : s.size ≤ 35184372088832) :
    Calls Tryd.prog 46 #[.string s] w fun e w' => (∃ ev, e = .returned (.tuple #[.string (mk ((NU.dec true (L s)).getD [])), ev]) ∧ UErr (NU.dec true (L s)) ev) ∧ Fr w w' := by
  have C := Lib.hid (unescape_any s 32 true w ht hs rfl rfl rfl)
  go_enter Tryd.func46, Tryd.ntmps46
  go_wp2_with (go_at_call 52; refine C.out.mono ?_; rintro e w1 ⟨⟨ev, rfl, hu⟩, hf⟩; replace hu := Lib.hid hu)
  go_ret2
  exact ⟨⟨_, rfl, hu.out⟩, hf⟩
end Go.Proofs.YtlholchmgheemaaDoor
