import Derived.Test.YtibcegbacnjmfaaDoorW1
namespace Go.Proofs.YtibcegbacnjmfaaDoor
set_option linter.unusedVariables false
set_option linter.unusedSimpArgs false
open Go.RowKit

set_option maxHeartbeats 400000 in
theorem unreserved_any (c : UInt8) (w : World) :
    Calls Tryd.prog 17 #[.int .u8 (c.toNat : Int)] w fun e w' => e = .returned (.bool (NU.unreserved c)) ∧ Fr w w' := by
  go_enter Tryd.func17, Tryd.ntmps17
  go_wp2_with (first
    | (go_at_call 28; refine (isDigit_any _ _).mono ?_; rintro e w' ⟨rfl, rfl⟩)
    | (go_at_call 27; refine (isAlpha_any _ _).mono ?_; rintro e w' ⟨rfl, rfl⟩)
    | (go_at_call 29; refine (has_any _ _ _ (by show (4 : Nat) ≤ 35184372088832; omega)).mono ?_; rintro e w' ⟨rfl, hf⟩))
  all_goals go_ret
  all_goals refine ⟨ret_bool ?_, by first | assumption | exact Fr.refl _⟩
  all_goals simp_all [NU.unreserved]

set_option maxHeartbeats 1000000 in
theorem chars_any (s t : ByteArray) (p : Bool) (w : World) (hs : s.size ≤ 35184372088832) (ht : t.size ≤ 35184372088832) :
    Calls Tryd.prog 23 #[.string s, .string t, .bool p] w fun e w' => e = .returned (.bool (NU.chars (L t) p (L s))) ∧ Fr w w' := by
  go_enter Tryd.func23, Tryd.ntmps23
  go_wp2
  go_loopw [7] (fun i wr => ∃ k : Nat, k ≤ s.size ∧ i = .int .i64 (k : Int) ∧ Fr w wr ∧ Hid (NU.chars (L t) p (L s) = NU.chars (L t) p ((L s).drop k))) (fun i _ => s.size - (intOf i).toNat)
  case atStart => exact ⟨0, by omega, rfl, Fr.refl _, by simp [Hid]⟩
  case round =>
    obtain ⟨k, hk, rfl, hfr, HS⟩ := hrel
    by_cases hlt : k < s.size
    · have HD := Lib.hid (drop_cons s k hlt)
      by_cases hc : ((s[k].toNat : Int) == 37) = true
      · have HC : Hid (s[k] = 37) := by
          show _ = _
          have hc' := hc
          simp only [beq_iff_eq] at hc'
          exact UInt8.toNat_inj.1 (by show s[k].toNat = 37; omega)
        cases p
        · have HI : Hid (NU.chars (L t) false (L s) = false) := by show _ = _; rw [HS.out, HD.out, HC.out, NU.chars_false]
          clear HS
          go_wp2_with fail
          go_ret
          exact ⟨ret_bool HI.out.symm, hfr⟩
        · by_cases h2 : k + 2 < s.size
          · have HI : Hid (NU.chars (L t) true (L s) = (decide (0 ≤ NU.hexv s[k+1]) && decide (0 ≤ NU.hexv s[k+2]) && NU.chars (L t) true ((L s).drop (k + 3)))) := by
              show _ = _; rw [HS.out, HD.out, HC.out, drop_cons s (k+1) (by omega), drop_cons s (k+2) (by omega), NU.chars_pct, Bool.true_and]
            have g1 := NU.hexv_lo s[k+1]
            have g2 := NU.hexv_lo s[k+2]
            have g3 := NU.hexv_hi s[k+1]
            have g4 := NU.hexv_hi s[k+2]
            clear HS
            go_wp2_with (go_at_call 18; refine (hex_any _ _).mono ?_; rintro e w' ⟨rfl, rfl⟩)
            all_goals first
              | (go_ret
                 refine ⟨ret_bool ?_, by assumption⟩
                 rw [HI.out]
                 first
                   | (have h : NU.hexv s[k+1] < 0 := by omega
                      simp [Int.not_le.2 h]; done)
                   | (have h : NU.hexv s[k+2] < 0 := by omega
                      simp [Int.not_le.2 h]; done))
              | (go_roundw
                 case rel =>
                   refine ⟨k + 3, by omega, by go_num, by assumption, ?_⟩
                   show _ = _
                   have h : 0 ≤ NU.hexv s[k+1] := by omega
                   have h' : 0 ≤ NU.hexv s[k+2] := by omega
                   rw [HI.out]; simp [h, h']
                 case measure => simp [intOf]; omega)
          · have HI : Hid (NU.chars (L t) true (L s) = false) := by show _ = _; rw [HS.out, HD.out, HC.out, NU.chars_short _ _ _ (by simp; omega)]
            clear HS
            go_wp2_with fail
            go_ret
            exact ⟨ret_bool HI.out.symm, hfr⟩
      · have hc : ((s[k].toNat : Int) == 37) = false := by simpa using hc
        have hc' : (s[k] == 37) = false := by rw [← u8_eq]; simpa using hc
        have HI : Hid (NU.chars (L t) p (L s) = ((NU.unreserved s[k] || NU.mem [33, 36, 38, 39, 40, 41, 42, 43, 44, 59, 61] s[k] || NU.mem (L t) s[k]) && NU.chars (L t) p ((L s).drop (k+1)))) := by
          show _ = _; rw [HS.out, HD.out, NU.chars_other _ _ _ _ hc']
        clear HS hc'
        go_wp2_with (first
          | (go_at_call 17; refine (unreserved_any _ _).mono ?_; rintro e w1 ⟨rfl, hf1⟩)
          | (go_at_call 29; refine (has_any _ _ _ (by first | assumption | (show (11 : Nat) ≤ 35184372088832; omega))).mono ?_; rintro e w1 ⟨rfl, hf1⟩))
        all_goals first
          | (go_ret
             refine ⟨ret_bool ?_, by repeat (first | exact hfr | refine Fr.trans ?_ (by assumption))⟩
             rw [HI.out]
             simp_all; done)
          | (go_roundw
             case rel =>
               refine ⟨k + 1, by omega, by go_num, by repeat (first | exact hfr | refine Fr.trans ?_ (by assumption)), ?_⟩
               show _ = _
               rw [HI.out]
               simp_all
             case measure => simp [intOf]; omega)
    · go_wp2
      go_ret
      exact ⟨ret_bool (by rw [HS.out, drop_end s k (by omega), NU.chars_nil]), hfr⟩
end Go.Proofs.YtibcegbacnjmfaaDoor
