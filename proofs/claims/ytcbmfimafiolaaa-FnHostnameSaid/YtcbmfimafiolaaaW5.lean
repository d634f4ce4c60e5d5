import Derived.Test.YtcbmfimafiolaaaW3
import Derived.Test.YtcbmfimafiolaaaP2
namespace Go.Proofs.Ytcbmfimafiolaaa
set_option linter.unusedVariables false
set_option linter.unusedSimpArgs false
open Go.RowKit

theorem empty_iff (s : ByteArray) : (s.toList = []) ↔ L s = [] := by rw [Lib.toList_data]
theorem size_take (s : ByteArray) (k : Nat) (h : k ≤ s.size) : (mk ((L s).take k)).size = k := by rw [mk_size, List.length_take, L_length]; omega
theorem mk_get (l : List UInt8) (k : Nat) (h : k < (mk l).size) : (mk l)[k] = l[k]'(by rw [mk_size] at h; exact h) := rfl

theorem min_drop (t : ByteArray) (i : Nat) (h : i ≤ t.size) : L (t.extract (if (t.size : Int) < (i : Int) + 1 then (t.size : Int) else (i : Int) + 1).toNat t.size) = (L t).drop (i + 1) := by
  rw [ext_from, L_mk]
  split
  · rw [show ((t.size : Int)).toNat = t.size by omega, drop_end t t.size (Nat.le_refl _), drop_end t (i + 1) (by omega)]
  · rw [show ((i : Int) + 1).toNat = i + 1 by omega]
theorem size_L {s : ByteArray} {l : List UInt8} (h : L s = l) : s.size = l.length := by rw [← L_length, h]

set_option maxHeartbeats 1000000 in
/-- The inner loop's way through one piece of an IPv4address. -/
theorem isIPv4_any (s : ByteArray) (w : World) (hs : s.size ≤ 1099511627776) :
    Calls Try.prog 58 #[.string s] w fun e w' => e = .returned (.bool (NU.isIPv4 (L s))) ∧ ∃ n, w' = w.drewN n := by
  go_enter Try.func58, Try.ntmps58
  go_wp2
  go_loopw [0, 8] (fun v i wr => ∃ (k n : Nat) (t : ByteArray), k ≤ 4 ∧ t.size ≤ s.size ∧ i = .int .i64 (k : Int) ∧ v = .string t ∧ wr = w.drewN n ∧ Hid (NU.isIPv4 (L s) = NU.v4go (4 - k) (L t))) (fun _ i _ => 4 - (intOf i).toNat)
  case atStart => exact ⟨0, 0, s, by omega, Nat.le_refl _, rfl, rfl, rfl, rfl⟩
  case round =>
    obtain ⟨k, n, t, hk, hts, rfl, rfl, rfl, HS⟩ := hrel
    by_cases hlt : k < 4
    · have ht : t.size ≤ 1099511627776 := by omega
      have hile := NU.index_le (L t) [46]
      rw [L_length] at hile
      obtain ⟨i, hi⟩ : ∃ i, i = NU.index (L t) [46] := ⟨_, rfl⟩
      rw [← hi] at hile
      obtain ⟨d, hd⟩ : ∃ d, d = t.extract 0 i := ⟨_, rfl⟩
      have hdz : d.size = i := by rw [hd, ext_to, size_take _ _ hile]
      have HD : Hid (L d = (L t).take i) := by show _ = _; rw [hd, ext_to, L_mk]
      have HI : Hid (i = NU.index (L t) [46]) := hi
      have HR : Hid (NU.v4go (4 - k) (L t) = (NU.v4d (L d) && (decide (i < t.size) == decide (0 < 3 - k)) && NU.v4go (3 - k) ((L t).drop (i + 1)))) := by
        show _ = _
        rw [show 4 - k = (3 - k) + 1 by omega, NU.v4go, HD.out, ← hi, L_length]
      have hd' := hd.symm
      have hdz1 : d.size ≤ i := by omega
      have hdz2 : i ≤ d.size := by omega
      clear hi hd hdz
      by_cases hz : d.size = 0
      · obtain rfl : i = 0 := by omega
        have HF : Hid (NU.v4d (L d) = false) := by show _ = _; simp [NU.v4d, hz]
        clear hdz1 hdz2 hz
        go_wp2_with (go_at_call 27; refine (index_any _ _ _ (by assumption) (by show (1 : Nat) ≤ 1099511627776; omega)).mono ?_; rintro e w' ⟨rfl, n1, rfl⟩; rw [show L { data := #[46] } = [46] from rfl, ← HI.out])
        go_ret
        exact ⟨ret_bool (by rw [HS.out, HR.out, HF.out]; rfl), by first | exact ⟨_, rfl⟩ | exact ⟨_, World.drewN_drewN _ _ _⟩⟩
      · have hz1 : ((d.size : Int) == 0) = false := beq_eq_false_iff_ne.2 (by omega)
        have hp : 0 < d.size := by omega
        by_cases h3 : 3 < d.size
        · have HF : Hid (NU.v4d (L d) = false) := by show _ = _; simp [NU.v4d, h3]
          go_wp2_with (go_at_call 27; refine (index_any _ _ _ (by assumption) (by show (1 : Nat) ≤ 1099511627776; omega)).mono ?_; rintro e w' ⟨rfl, n1, rfl⟩; rw [show L { data := #[46] } = [46] from rfl, ← HI.out])
          go_ret
          exact ⟨ret_bool (by rw [HS.out, HR.out, HF.out]; rfl), by first | exact ⟨_, rfl⟩ | exact ⟨_, World.drewN_drewN _ _ _⟩⟩
        · have h3' : d.size ≤ 3 := by omega
          have hdc := drop_cons d 0 hp
          simp only [List.drop_zero, Nat.zero_add] at hdc
          by_cases h0 : (decide (1 < d.size) && (d[0] == 48)) = true
          · have HF : Hid (NU.v4d (L d) = false) := by
              show _ = _; rw [NU.v4d]
              have e1 : (decide (1 < (L d).length) && ((L d).head? == some 48)) = true := by
                rw [L_length, hdc]; simpa using h0
              rw [e1]; simp
            simp only [Bool.and_eq_true, decide_eq_true_eq] at h0
            obtain ⟨h1, h2⟩ := h0
            have h2' : ((d[0].toNat : Int) == 48) = true := by rw [← h2]; exact u8_eq d[0] 48
            clear hdc h2 hz h3
            go_wp2_with (go_at_call 27; refine (index_any _ _ _ (by assumption) (by show (1 : Nat) ≤ 1099511627776; omega)).mono ?_; rintro e w' ⟨rfl, n1, rfl⟩; rw [show L { data := #[46] } = [46] from rfl, ← HI.out])
            go_ret
            exact ⟨ret_bool (by rw [HS.out, HR.out, HF.out]; rfl), by first | exact ⟨_, rfl⟩ | exact ⟨_, World.drewN_drewN _ _ _⟩⟩
          · have HV : Hid (NU.v4d (L d) = (NU.allDigits (L d) && decide (NU.dv 0 (L d) ≤ 255))) := by
              show _ = _; rw [NU.v4d]
              have e1 : (decide (1 < (L d).length) && ((L d).head? == some 48)) = false := by
                rw [L_length, hdc]; simpa using h0
              rw [e1, L_length]; simp [hz, h3]
            have hw1 : d.size = 1 ∨ (1 < d.size ∧ ((d[0].toNat : Int) == 48) = false) := by
              by_cases h1 : 1 < d.size
              · right; refine ⟨h1, ?_⟩
                have := u8_eq d[0] 48
                rw [show ((48 : UInt8).toNat : Int) = 48 from rfl] at this
                rw [this]; simpa [h1] using h0
              · left; omega
            clear hdc h0 h3
            rcases hw1 with h1 | ⟨h1, h2⟩
            · have h1' : ¬ (1 : Int) < d.size := by omega
              have h1'' : d.size ≤ 1 := by omega
              clear h1
              go_wp2_with (go_at_call 27; refine (index_any _ _ _ (by assumption) (by show (1 : Nat) ≤ 1099511627776; omega)).mono ?_; rintro e w' ⟨rfl, n1, rfl⟩; rw [show L { data := #[46] } = [46] from rfl, ← HI.out])
              go_loop [6, 36] (fun v j => ∃ (q : Nat) (x : Int), q ≤ d.size ∧ j = .int .i64 (q : Int) ∧ v = .int .i64 x ∧ Hid (NU.dvb q x) ∧ Hid (NU.allDigits (L d) = NU.allDigits ((L d).drop q)) ∧ Hid (NU.dv 0 (L d) = NU.dv x ((L d).drop q))) (fun _ j => d.size - (intOf j).toNat)
              case atStart => exact ⟨0, 0, by omega, rfl, rfl, NU.dvb_zero, rfl, rfl⟩
              case round =>
                obtain ⟨q, x, hq, rfl, rfl, HB, HA, HX⟩ := hrel
                have hx0 := NU.dvb_lo HB.out
                have hx1 := NU.dvb_hi HB.out
                by_cases hqd : q < d.size
                · have HDA : Hid (NU.allDigits ((L d).drop q) = (NU.isDigit d[q] && NU.allDigits ((L d).drop (q + 1)))) := by show _ = _; rw [drop_cons d q hqd, NU.allDigits_cons]
                  have HDX : Hid (NU.dv x ((L d).drop q) = NU.dv (x * 10 + ((d[q].toNat : Int) - 48)) ((L d).drop (q + 1))) := by show _ = _; rw [drop_cons d q hqd, NU.dv]
                  by_cases hg : NU.isDigit d[q] = true
                  · have hg1 : 48 ≤ (d[q].toNat : Int) := by simp [NU.isDigit] at hg; omega
                    have hg2 : (d[q].toNat : Int) ≤ 57 := by simp [NU.isDigit] at hg; omega
                    go_wp2_with (go_at_call 26; refine (isDigit_any _ _).mono ?_; rintro e w' ⟨rfl, rfl⟩)
                    go_round
                    case rel => exact ⟨q + 1, x * 10 + ((d[q].toNat : Int) - 48), by omega, by go_num, by go_num, NU.dvb_step HB.out (by omega) hg1 hg2, by show _ = _; rw [HA.out, HDA.out, hg]; rfl, by show _ = _; rw [HX.out, HDX.out]⟩
                    case measure => simp [intOf]; omega
                  · have hg : NU.isDigit d[q] = false := by simpa using hg
                    go_wp2_with (go_at_call 26; refine (isDigit_any _ _).mono ?_; rintro e w' ⟨rfl, rfl⟩)
                    go_ret
                    exact ⟨ret_bool (by rw [HS.out, HR.out, HV.out, HA.out, HDA.out, hg]; rfl), by first | exact ⟨_, rfl⟩ | exact ⟨_, World.drewN_drewN _ _ _⟩⟩
                · have HA' : Hid (NU.allDigits (L d) = true) := by show _ = _; rw [HA.out, drop_end d q (by omega)]; rfl
                  have HX' : Hid (NU.dv 0 (L d) = x) := by show _ = _; rw [HX.out, drop_end d q (by omega)]; rfl
                  by_cases hv : 255 < x
                  · go_wp2
                    go_ret
                    exact ⟨ret_bool (by rw [HS.out, HR.out, HV.out, HX'.out, decide_eq_false (by omega : ¬ x ≤ 255)]; simp), by first | exact ⟨_, rfl⟩ | exact ⟨_, World.drewN_drewN _ _ _⟩⟩
                  · have hv' : x ≤ 255 := by omega
                    by_cases hit : i < t.size
                    all_goals by_cases hk3 : k < 3
                    · have hb1 : decide ((k : Int) < 3) = true := by simp; omega
                      have hb2 : decide (i < t.size) = true := by simpa using hit
                      go_wp2
                      go_roundw
                      case rel =>
                        refine ⟨k + 1, n + n1, _, by omega, ?_, by go_num, rfl, rfl, ?_⟩
                        · first | rw [size_L (min_drop t i hile), List.length_drop, L_length] | rw [ext_from, mk_size, List.length_drop, L_length]
                          omega
                        · show _ = _
                          have e2 : (decide (i < t.size) == decide (0 < 3 - k)) = true := by simp; omega
                          first
                            | (rw [HS.out, HR.out, HV.out, HA'.out, HX'.out, min_drop t i hile, show 4 - (k + 1) = 3 - k by omega, e2, decide_eq_true hv']; rfl)
                            | (rw [HS.out, HR.out, HV.out, HA'.out, HX'.out, ext_from, L_mk, show 4 - (k + 1) = 3 - k by omega, e2, decide_eq_true hv']; rfl)
                      case measure => simp [intOf]; omega
                    · have hb1 : decide ((k : Int) < 3) = false := by simp; omega
                      have hb2 : decide (i < t.size) = true := by simpa using hit
                      have e2 : Hid ((decide (i < t.size) == decide (0 < 3 - k)) = false) := by show _ = _; simp; omega
                      go_wp2
                      go_ret
                      exact ⟨ret_bool (by rw [HS.out, HR.out, e2.out]; simp), by first | exact ⟨_, rfl⟩ | exact ⟨_, World.drewN_drewN _ _ _⟩⟩
                    · have hb1 : decide ((k : Int) < 3) = true := by simp; omega
                      have hb2 : decide (i < t.size) = false := by simpa using hit
                      have e2 : Hid ((decide (i < t.size) == decide (0 < 3 - k)) = false) := by show _ = _; simp; omega
                      go_wp2
                      go_ret
                      exact ⟨ret_bool (by rw [HS.out, HR.out, e2.out]; simp), by first | exact ⟨_, rfl⟩ | exact ⟨_, World.drewN_drewN _ _ _⟩⟩
                    · have hb1 : decide ((k : Int) < 3) = false := by simp; omega
                      have hb2 : decide (i < t.size) = false := by simpa using hit
                      have e2 : Hid ((decide (i < t.size) == decide (0 < 3 - k)) = true) := by show _ = _; simp; omega
                      go_wp2
                      go_roundw
                      case rel =>
                        refine ⟨k + 1, n + n1, _, by omega, ?_, by go_num, rfl, rfl, ?_⟩
                        · rw [size_L (min_drop t i hile), List.length_drop, L_length]; omega
                        · show _ = _
                          rw [HS.out, HR.out, HV.out, HA'.out, HX'.out, e2.out, decide_eq_true hv', min_drop t i hile, show 4 - (k + 1) = 3 - k by omega]; rfl
                      case measure => simp [intOf]; omega
            · go_wp2_with (go_at_call 27; refine (index_any _ _ _ (by assumption) (by show (1 : Nat) ≤ 1099511627776; omega)).mono ?_; rintro e w' ⟨rfl, n1, rfl⟩; rw [show L { data := #[46] } = [46] from rfl, ← HI.out])
              go_loop [6, 36] (fun v j => ∃ (q : Nat) (x : Int), q ≤ d.size ∧ j = .int .i64 (q : Int) ∧ v = .int .i64 x ∧ Hid (NU.dvb q x) ∧ Hid (NU.allDigits (L d) = NU.allDigits ((L d).drop q)) ∧ Hid (NU.dv 0 (L d) = NU.dv x ((L d).drop q))) (fun _ j => d.size - (intOf j).toNat)
              case atStart => exact ⟨0, 0, by omega, rfl, rfl, NU.dvb_zero, rfl, rfl⟩
              case round =>
                obtain ⟨q, x, hq, rfl, rfl, HB, HA, HX⟩ := hrel
                have hx0 := NU.dvb_lo HB.out
                have hx1 := NU.dvb_hi HB.out
                by_cases hqd : q < d.size
                · have HDA : Hid (NU.allDigits ((L d).drop q) = (NU.isDigit d[q] && NU.allDigits ((L d).drop (q + 1)))) := by show _ = _; rw [drop_cons d q hqd, NU.allDigits_cons]
                  have HDX : Hid (NU.dv x ((L d).drop q) = NU.dv (x * 10 + ((d[q].toNat : Int) - 48)) ((L d).drop (q + 1))) := by show _ = _; rw [drop_cons d q hqd, NU.dv]
                  by_cases hg : NU.isDigit d[q] = true
                  · have hg1 : 48 ≤ (d[q].toNat : Int) := by simp [NU.isDigit] at hg; omega
                    have hg2 : (d[q].toNat : Int) ≤ 57 := by simp [NU.isDigit] at hg; omega
                    go_wp2_with (go_at_call 26; refine (isDigit_any _ _).mono ?_; rintro e w' ⟨rfl, rfl⟩)
                    go_round
                    case rel => exact ⟨q + 1, x * 10 + ((d[q].toNat : Int) - 48), by omega, by go_num, by go_num, NU.dvb_step HB.out (by omega) hg1 hg2, by show _ = _; rw [HA.out, HDA.out, hg]; rfl, by show _ = _; rw [HX.out, HDX.out]⟩
                    case measure => simp [intOf]; omega
                  · have hg : NU.isDigit d[q] = false := by simpa using hg
                    go_wp2_with (go_at_call 26; refine (isDigit_any _ _).mono ?_; rintro e w' ⟨rfl, rfl⟩)
                    go_ret
                    exact ⟨ret_bool (by rw [HS.out, HR.out, HV.out, HA.out, HDA.out, hg]; rfl), by first | exact ⟨_, rfl⟩ | exact ⟨_, World.drewN_drewN _ _ _⟩⟩
                · have HA' : Hid (NU.allDigits (L d) = true) := by show _ = _; rw [HA.out, drop_end d q (by omega)]; rfl
                  have HX' : Hid (NU.dv 0 (L d) = x) := by show _ = _; rw [HX.out, drop_end d q (by omega)]; rfl
                  by_cases hv : 255 < x
                  · go_wp2
                    go_ret
                    exact ⟨ret_bool (by rw [HS.out, HR.out, HV.out, HX'.out, decide_eq_false (by omega : ¬ x ≤ 255)]; simp), by first | exact ⟨_, rfl⟩ | exact ⟨_, World.drewN_drewN _ _ _⟩⟩
                  · have hv' : x ≤ 255 := by omega
                    by_cases hit : i < t.size
                    all_goals by_cases hk3 : k < 3
                    · have hb1 : decide ((k : Int) < 3) = true := by simp; omega
                      have hb2 : decide (i < t.size) = true := by simpa using hit
                      go_wp2
                      go_roundw
                      case rel =>
                        refine ⟨k + 1, n + n1, _, by omega, ?_, by go_num, rfl, rfl, ?_⟩
                        · first | rw [size_L (min_drop t i hile), List.length_drop, L_length] | rw [ext_from, mk_size, List.length_drop, L_length]
                          omega
                        · show _ = _
                          have e2 : (decide (i < t.size) == decide (0 < 3 - k)) = true := by simp; omega
                          first
                            | (rw [HS.out, HR.out, HV.out, HA'.out, HX'.out, min_drop t i hile, show 4 - (k + 1) = 3 - k by omega, e2, decide_eq_true hv']; rfl)
                            | (rw [HS.out, HR.out, HV.out, HA'.out, HX'.out, ext_from, L_mk, show 4 - (k + 1) = 3 - k by omega, e2, decide_eq_true hv']; rfl)
                      case measure => simp [intOf]; omega
                    · have hb1 : decide ((k : Int) < 3) = false := by simp; omega
                      have hb2 : decide (i < t.size) = true := by simpa using hit
                      have e2 : Hid ((decide (i < t.size) == decide (0 < 3 - k)) = false) := by show _ = _; simp; omega
                      go_wp2
                      go_ret
                      exact ⟨ret_bool (by rw [HS.out, HR.out, e2.out]; simp), by first | exact ⟨_, rfl⟩ | exact ⟨_, World.drewN_drewN _ _ _⟩⟩
                    · have hb1 : decide ((k : Int) < 3) = true := by simp; omega
                      have hb2 : decide (i < t.size) = false := by simpa using hit
                      have e2 : Hid ((decide (i < t.size) == decide (0 < 3 - k)) = false) := by show _ = _; simp; omega
                      go_wp2
                      go_ret
                      exact ⟨ret_bool (by rw [HS.out, HR.out, e2.out]; simp), by first | exact ⟨_, rfl⟩ | exact ⟨_, World.drewN_drewN _ _ _⟩⟩
                    · have hb1 : decide ((k : Int) < 3) = false := by simp; omega
                      have hb2 : decide (i < t.size) = false := by simpa using hit
                      have e2 : Hid ((decide (i < t.size) == decide (0 < 3 - k)) = true) := by show _ = _; simp; omega
                      go_wp2
                      go_roundw
                      case rel =>
                        refine ⟨k + 1, n + n1, _, by omega, ?_, by go_num, rfl, rfl, ?_⟩
                        · rw [size_L (min_drop t i hile), List.length_drop, L_length]; omega
                        · show _ = _
                          rw [HS.out, HR.out, HV.out, HA'.out, HX'.out, e2.out, decide_eq_true hv', min_drop t i hile, show 4 - (k + 1) = 3 - k by omega]; rfl
                      case measure => simp [intOf]; omega
    · obtain rfl : k = 4 := by omega
      go_wp2
      go_ret
      exact ⟨ret_bool (by rw [HS.out]; simp [NU.v4go, Lib.toList_data]), n, rfl⟩
end Go.Proofs.Ytcbmfimafiolaaa
