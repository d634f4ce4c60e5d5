import Derived.Test.YtcbmfimafiolaaaDoorW22
import Derived.Test.YtcbmfimafiolaaaDoorW23
namespace Go.Proofs.YtcbmfimafiolaaaDoor
set_option linter.unusedVariables false
set_option linter.unusedSimpArgs false
open Go.RowKit

theorem urlPathUnescape_any (s : ByteArray) (w : World) (ht : Tab w) (hs : s.size ≤ 1099511627776) :
    Calls Tryd.prog 23 #[.string s] w fun e w' => (∃ ev, e = .returned (.tuple #[.string (mk ((NU.dec false (L s)).getD [])), ev]) ∧ UErr (NU.dec false (L s)) ev) ∧ Fr w w' := by
  have C := Lib.hid (unescape_any s 2 false w ht hs rfl rfl rfl)
  go_enter Tryd.func23, Tryd.ntmps23
  go_wp2_with (go_at_call 35; refine C.out.mono ?_; rintro e w1 ⟨⟨ev, rfl, hu⟩, hf⟩; replace hu := Lib.hid hu)
  go_ret2
  exact ⟨⟨_, rfl, hu.out⟩, hf⟩
theorem urlQueryUnescape_any (s : ByteArray) (w : World) (ht : Tab w) (hs : s.size ≤ 1099511627776) :
    Calls Tryd.prog 25 #[.string s] w fun e w' => (∃ ev, e = .returned (.tuple #[.string (mk ((NU.dec true (L s)).getD [])), ev]) ∧ UErr (NU.dec true (L s)) ev) ∧ Fr w w' := by
  have C := Lib.hid (unescape_any s 32 true w ht hs rfl rfl rfl)
  go_enter Tryd.func25, Tryd.ntmps25
  go_wp2_with (go_at_call 35; refine C.out.mono ?_; rintro e w1 ⟨⟨ev, rfl, hu⟩, hf⟩; replace hu := Lib.hid hu)
  go_ret2
  exact ⟨⟨_, rfl, hu.out⟩, hf⟩
set_option maxHeartbeats 1000000 in
theorem implPathUnescape_any (s : ByteArray) (w : World) (ht : Tab w) (hs : s.size ≤ 1099511627776) :
    Calls Tryd.prog 12 #[.string s] w fun e w' => e = .returned (.tuple #[.string (mk ((NU.dec false (L s)).getD [])), .bool (NU.dec false (L s)).isSome]) ∧ Fr w w' := by
  have C := Lib.hid (urlPathUnescape_any s w ht hs)
  cases hd : NU.dec false (L s)
  all_goals
    rw [hd] at C
    clear hd
    go_enter Tryd.func12, Tryd.ntmps12
  · go_wp2_with (go_at_call 23; refine C.out.mono ?_; rintro e w1 ⟨⟨ev, rfl, x, rfl⟩, hf⟩)
    go_quiet (fail)
    go_wp2
    go_ret2
    exact ⟨rfl, hf.drewN _⟩
  · go_wp2_with (go_at_call 23; refine C.out.mono ?_; rintro e w1 ⟨⟨ev, rfl, rfl⟩, hf⟩)
    go_quiet (fail)
    go_wp2
    go_ret2
    exact ⟨rfl, hf.drewN _⟩
set_option maxHeartbeats 1000000 in
theorem implQueryUnescape_any (s : ByteArray) (w : World) (ht : Tab w) (hs : s.size ≤ 1099511627776) :
    Calls Tryd.prog 14 #[.string s] w fun e w' => e = .returned (.tuple #[.string (mk ((NU.dec true (L s)).getD [])), .bool (NU.dec true (L s)).isSome]) ∧ Fr w w' := by
  have C := Lib.hid (urlQueryUnescape_any s w ht hs)
  cases hd : NU.dec true (L s)
  all_goals
    rw [hd] at C
    clear hd
    go_enter Tryd.func14, Tryd.ntmps14
  · go_wp2_with (go_at_call 25; refine C.out.mono ?_; rintro e w1 ⟨⟨ev, rfl, x, rfl⟩, hf⟩)
    go_quiet (fail)
    go_wp2
    go_ret2
    exact ⟨rfl, hf.drewN _⟩
  · go_wp2_with (go_at_call 25; refine C.out.mono ?_; rintro e w1 ⟨⟨ev, rfl, rfl⟩, hf⟩)
    go_quiet (fail)
    go_wp2
    go_ret2
    exact ⟨rfl, hf.drewN _⟩
set_option maxHeartbeats 1000000 in
theorem FnPathUnescape_any (s : ByteArray) (w : World) (ht : Tab w) :
    Calls Tryd.prog 4 #[.string s] w fun e w' => e = .returned (.bool true) ∧ Fr w w' := by
  by_cases hb : s.size ≤ 2147483647
  · have hs : s.size ≤ 1099511627776 := by omega
    have C1 := Lib.hid (fun W => Decode_any s W hs)
    have C2 := Lib.hid (fun W (hW : Tab W) => implPathUnescape_any s W hW hs)
    replace ht := Lib.hid ht
    cases hd : NU.dec false (L s)
    all_goals
      rw [hd] at C1 C2
      clear hd
      go_enter Tryd.func4, Tryd.ntmps4
      go_wp2_with (first
        | (go_at_call 11; refine (C1.out _).mono ?_; rintro e w1 ⟨rfl, hf1⟩; have ht1 := Lib.hid (ht.out.fr hf1))
        | (go_at_call 12; refine (C2.out _ ht1.out).mono ?_; rintro e w2 ⟨rfl, hf2⟩))
      go_ret
      exact ⟨rfl, hf1.trans hf2⟩
  · have hb : 2147483647 < (s.size : Int) := by omega
    go_enter Tryd.func4, Tryd.ntmps4
    go_wp2
    go_ret
    exact ⟨rfl, Fr.refl _⟩
end Go.Proofs.YtcbmfimafiolaaaDoor
