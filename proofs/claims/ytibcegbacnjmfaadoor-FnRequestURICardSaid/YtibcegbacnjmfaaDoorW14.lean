import Derived.Test.YtibcegbacnjmfaaDoorW4
import Derived.Test.YtibcegbacnjmfaaDoorP
namespace Go.Proofs.YtibcegbacnjmfaaDoor
set_option linter.unusedVariables false
set_option linter.unusedSimpArgs false
open Go.RowKit

set_option maxHeartbeats 400000 in
theorem LastIndexByteString_any (s : ByteArray) (c : UInt8) (w : World) (hs : s.size ≤ 35184372088832) :
    Calls Tryd.prog 78 #[.string s, .int .u8 (c.toNat : Int)] w fun e w' => e = .returned (.int .i64 (NU.lastIdx c (L s))) ∧ w = w' := by
  go_enter Tryd.func78, Tryd.ntmps78
  go_wp2
  go_loop [5] (fun i => ∃ k : Nat, k ≤ s.size ∧ i = .int .i64 ((k : Int) - 1) ∧ Hid (NU.lastIdx c (L s) = NU.lastIdx c ((L s).take k))) (fun i => ((intOf i) + 1).toNat)
  case atStart => exact ⟨s.size, by omega, rfl, by show _ = _; rw [List.take_of_length_le (by rw [L_length]; omega)]⟩
  case round =>
    obtain ⟨k, hk, rfl, HS⟩ := hrel
    by_cases h0 : k = 0
    · have h1 : ¬ (1 : Int) ≤ k := by omega
      have h2 : ¬ (0 : Int) ≤ (k : Int) - 1 := by omega
      have HF : Hid (NU.lastIdx c (L s) = -1) := by show _ = _; rw [HS.out, h0]; rfl
      clear HS h0
      go_wp2
      go_ret
      exact ⟨ret_int HF.out.symm, rfl⟩
    · obtain ⟨m, rfl⟩ : ∃ m, k = m + 1 := ⟨k - 1, by omega⟩
      have hm : m < s.size := by omega
      have HI : Hid (NU.lastIdx c ((L s).take (m + 1)) = if s[m] == c then (m : Int) else NU.lastIdx c ((L s).take m)) := by
        show _ = _
        have e1 : (L s).take (m + 1) = (L s).take m ++ [s[m]] := by
          rw [List.take_succ_eq_append_getElem (by rw [L_length]; exact hm)]; rfl
        have e2 : ((L s).take m).length = m := by rw [List.length_take, L_length]; omega
        rw [e1, NU.lastIdx_snoc, e2]
      have e3 : (((m + 1 : Nat) : Int) - 1) = (m : Int) := by omega
      rw [e3]
      clear h0 e3
      by_cases hc : ((s[m].toNat : Int) == (c.toNat : Int)) = true
      · have HC : Hid ((s[m] == c) = true) := by show _ = _; rw [← u8_eq]; exact hc
        go_wp2
        go_ret
        exact ⟨ret_int (by rw [HS.out, HI.out, HC.out]; rfl), rfl⟩
      · have hc : ((s[m].toNat : Int) == (c.toNat : Int)) = false := by simpa using hc
        have HC : Hid ((s[m] == c) = false) := by show _ = _; rw [← u8_eq]; exact hc
        go_wp2
        go_round
        case rel => exact ⟨m, by omega, rfl, by show _ = _; rw [HS.out, HI.out, HC.out]; rfl⟩
        case measure => first | (simp [intOf]; done) | (simp [intOf]; omega)

set_option maxHeartbeats 400000 in
theorem slHasPrefix_any (s t : ByteArray) (w : World) (hs : s.size ≤ 35184372088832) (ht : t.size ≤ 35184372088832) :
    Calls Tryd.prog 62 #[.string s, .string t] w fun e w' => e = .returned (.bool (NU.begins (L s) (L t))) ∧ w = w' := by
  by_cases h : t.size ≤ s.size
  all_goals go_enter Tryd.func62, Tryd.ntmps62
  all_goals go_wp2
  all_goals go_ret
  · exact ⟨ret_bool (by rw [NU.begins, Lib.toList_data, Lib.toList_data, Lib.extract_data]; have := Lib.hasPrefix_of_take (L s) (L t); simpa [Lib.hasPrefix, h] using this), rfl⟩
  · exact ⟨ret_bool (by have := Lib.hasPrefix_of_take (L s) (L t); simpa [Lib.hasPrefix, h, NU.begins] using this), rfl⟩
set_option maxHeartbeats 400000 in
theorem HasPrefix_any (s t : ByteArray) (w : World) (hs : s.size ≤ 35184372088832) (ht : t.size ≤ 35184372088832) :
    Calls Tryd.prog 44 #[.string s, .string t] w fun e w' => e = .returned (.bool (NU.begins (L s) (L t))) ∧ w = w' := by
  go_enter Tryd.func44, Tryd.ntmps44
  go_wp2_with (go_at_call 62; refine (slHasPrefix_any _ _ _ hs ht).mono ?_; rintro e w' ⟨rfl, rfl⟩)
  go_ret
  exact ⟨rfl, rfl⟩
set_option maxHeartbeats 400000 in
theorem slHasSuffix_any (s t : ByteArray) (w : World) (hs : s.size ≤ 35184372088832) (ht : t.size ≤ 35184372088832) :
    Calls Tryd.prog 65 #[.string s, .string t] w fun e w' => e = .returned (.bool (NU.ends (L s) (L t))) ∧ w = w' := by
  by_cases h : t.size ≤ s.size
  · obtain ⟨d, hd⟩ : ∃ d, s.size = d + t.size := ⟨s.size - t.size, by omega⟩
    have HD := Lib.hid hd
    have e1 : (s.size : Int) - (t.size : Int) = (d : Int) := by omega
    have e2 : d ≤ s.size := by omega
    clear hd
    go_enter Tryd.func65, Tryd.ntmps65
    go_wp2
    go_ret
    exact ⟨ret_bool (by
      rw [NU.ends, beq_L, ext_from, L_mk]; have := Lib.hasSuffix_of_drop (L s) (L t)
      rw [L_length, L_length, show s.size - t.size = d by have := HD.out; omega, decide_eq_true h, Bool.true_and] at this
      exact this), rfl⟩
  · go_enter Tryd.func65, Tryd.ntmps65
    go_wp2
    go_ret
    exact ⟨ret_bool (by have := Lib.hasSuffix_of_drop (L s) (L t); simpa [Lib.hasSuffix, h, NU.ends] using this), rfl⟩
set_option maxHeartbeats 400000 in
theorem HasSuffix_any (s t : ByteArray) (w : World) (hs : s.size ≤ 35184372088832) (ht : t.size ≤ 35184372088832) :
    Calls Tryd.prog 53 #[.string s, .string t] w fun e w' => e = .returned (.bool (NU.ends (L s) (L t))) ∧ w = w' := by
  go_enter Tryd.func53, Tryd.ntmps53
  go_wp2_with (go_at_call 65; refine (slHasSuffix_any _ _ _ hs ht).mono ?_; rintro e w' ⟨rfl, rfl⟩)
  go_ret
  exact ⟨rfl, rfl⟩
end Go.Proofs.YtibcegbacnjmfaaDoor
