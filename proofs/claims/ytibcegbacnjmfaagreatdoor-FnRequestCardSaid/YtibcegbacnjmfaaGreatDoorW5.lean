import Derived.Test.YtibcegbacnjmfaaGreatDoorW1
import Derived.Test.YtibcegbacnjmfaaGreatDoorP
import Derived.Deep.RegionWith
namespace Go.Proofs.YtibcegbacnjmfaaGreatDoor
set_option linter.unusedVariables false
set_option linter.unusedSimpArgs false
open Go.RowKit

theorem empty_iff (s : ByteArray) : (s.toList = []) ↔ L s = [] := by rw [Lib.toList_data]
theorem size_take (s : ByteArray) (k : Nat) (h : k ≤ s.size) : (mk ((L s).take k)).size = k := by rw [mk_size, List.length_take, L_length]; omega
theorem mk_get (l : List UInt8) (k : Nat) (h : k < (mk l).size) : (mk l)[k] = l[k]'(by rw [mk_size] at h; exact h) := rfl

theorem min_drop (t : ByteArray) (i : Nat) (h : i ≤ t.size) : L (t.extract (if (t.size : Int) < (i : Int) + 1 then (t.size : Int) else (i : Int) + 1).toNat t.size) = (L t).drop (i + 1) := by
  rw [ext_from, L_mk]
  split
  · rw [show ((t.size : Int)).toNat = t.size by omega, drop_end t t.size (Nat.le_refl _), drop_end t (i + 1) (by omega)]
  · rw [show ((i : Int) + 1).toNat = i + 1 by omega]
theorem size_L {s : ByteArray} {l : List UInt8} (h : L s = l) : s.size = l.length := by rw [← L_length, h]

set_option maxHeartbeats 1000000 in
/-- The inner loop's way through one piece of an IPv4address. -/
theorem isIPv4_any (s : ByteArray) (w : World) (hs : s.size ≤ 35184372088832) :
    Calls Tryz.prog 66 #[.string s] w fun e w' => e = .returned (.bool (NU.isIPv4 (L s))) ∧ ∃ n, w' = w.drewN n := by
  go_enter Tryz.func66, Tryz.ntmps66
  go_wp2
  go_loopw [0, 8] (fun v i wr => ∃ (k n : Nat) (t : ByteArray), k ≤ 4 ∧ t.size ≤ s.size ∧ i = .int .i64 (k : Int) ∧ v = .string t ∧ wr = w.drewN n ∧ Hid (NU.isIPv4 (L s) = NU.v4go (4 - k) (L t))) (fun _ i _ => 4 - (intOf i).toNat)
  case atStart => exact ⟨0, 0, s, by omega, Nat.le_refl _, rfl, rfl, rfl, rfl⟩
  case round =>
    obtain ⟨k, n, t, hk, hts, rfl, rfl, rfl, HS⟩ := hrel
    by_cases hlt : k < 4
    · have ht : t.size ≤ 35184372088832 := by omega
      have hile := NU.index_le (L t) [46]
      rw [L_length] at hile
      obtain ⟨i, hi⟩ : ∃ i, i = NU.index (L t) [46] := ⟨_, rfl⟩
      rw [← hi] at hile
      obtain ⟨d, hd⟩ : ∃ d, d = t.extract 0 i := ⟨_, rfl⟩
      have hdz : d.size = i := by rw [hd, ext_to, size_take _ _ hile]
      have HD : Hid (L d = (L t).take i) := by show _ = _; rw [hd, ext_to, L_mk]
      have HI : Hid (i = NU.index (L t) [46]) := hi
      have HR : Hid (NU.v4go (4 - k) (L t) = (NU.v4d (L d) && (decide (i < t.size) == decide (0 < 3 - k)) && NU.v4go (3 - k) ((L t).drop (i + 1)))) := by
        show _ = _
        rw [show 4 - k = (3 - k) + 1 by omega, NU.v4go, HD.out, ← hi, L_length]
      have hd' := hd.symm
      have hdz1 : d.size ≤ i := by omega
      have hdz2 : i ≤ d.size := by omega
      clear hi hd hdz
      by_cases hz : d.size = 0
      · obtain rfl : i = 0 := by omega
        have HF : Hid (NU.v4d (L d) = false) := by show _ = _; simp [NU.v4d, hz]
        clear hdz1 hdz2 hz
        go_wp2_with (go_at_call 15; refine (index_any _ _ _ (by assumption) (by show (1 : Nat) ≤ 35184372088832; omega)).mono ?_; rintro e w' ⟨rfl, n1, rfl⟩; rw [show L { data := #[46] } = [46] from rfl, ← HI.out])
        go_ret
        exact ⟨ret_bool (by rw [HS.out, HR.out, HF.out]; rfl), by first | exact ⟨_, rfl⟩ | exact ⟨_, World.drewN_drewN _ _ _⟩⟩
      · have hz1 : ((d.size : Int) == 0) = false := beq_eq_false_iff_ne.2 (by omega)
        have hp : 0 < d.size := by omega
        by_cases h3 : 3 < d.size
        · have HF : Hid (NU.v4d (L d) = false) := by show _ = _; simp [NU.v4d, h3]
          go_wp2_with (go_at_call 15; refine (index_any _ _ _ (by assumption) (by show (1 : Nat) ≤ 35184372088832; omega)).mono ?_; rintro e w' ⟨rfl, n1, rfl⟩; rw [show L { data := #[46] } = [46] from rfl, ← HI.out])
          go_ret
          exact ⟨ret_bool (by rw [HS.out, HR.out, HF.out]; rfl), by first | exact ⟨_, rfl⟩ | exact ⟨_, World.drewN_drewN _ _ _⟩⟩
        · have h3' : d.size ≤ 3 := by omega
          have hdc := drop_cons d 0 hp
          simp only [List.drop_zero, Nat.zero_add] at hdc
          by_cases h0 : (decide (1 < d.size) && (d[0] == 48)) = true
          · have HF : Hid (NU.v4d (L d) = false) := by
              show _ = _; rw [NU.v4d]
              have e1 : (decide (1 < (L d).length) && ((L d).head? == some 48)) = true := by
                rw [L_length, hdc]; simpa using h0
              rw [e1]; simp
            simp only [Bool.and_eq_true, decide_eq_true_eq] at h0
            obtain ⟨h1, h2⟩ := h0
            have h2' : ((d[0].toNat : Int) == 48) = true := by rw [← h2]; exact u8_eq d[0] 48
            clear hdc h2 hz h3
            go_wp2_with (go_at_call 15; refine (index_any _ _ _ (by assumption) (by show (1 : Nat) ≤ 35184372088832; omega)).mono ?_; rintro e w' ⟨rfl, n1, rfl⟩; rw [show L { data := #[46] } = [46] from rfl, ← HI.out])
            go_ret
            exact ⟨ret_bool (by rw [HS.out, HR.out, HF.out]; rfl), by first | exact ⟨_, rfl⟩ | exact ⟨_, World.drewN_drewN _ _ _⟩⟩
          · have HV : Hid (NU.v4d (L d) = (NU.allDigits (L d) && decide (NU.dv 0 (L d) ≤ 255))) := by
              show _ = _; rw [NU.v4d]
              have e1 : (decide (1 < (L d).length) && ((L d).head? == some 48)) = false := by
                rw [L_length, hdc]; simpa using h0
              rw [e1, L_length]; simp [hz, h3]
            have hw1 : d.size = 1 ∨ (1 < d.size ∧ ((d[0].toNat : Int) == 48) = false) := by
              by_cases h1 : 1 < d.size
              · right; refine ⟨h1, ?_⟩
                have := u8_eq d[0] 48
                rw [show ((48 : UInt8).toNat : Int) = 48 from rfl] at this
                rw [this]; simpa [h1] using h0
              · left; omega
            clear hdc h0 h3
            rcases hw1 with h1 | ⟨h1, h2⟩
            · have h1' : ¬ (1 : Int) < d.size := by omega
              have h1'' : d.size ≤ 1 := by omega
              clear h1
              go_wp2_with (go_at_call 15; refine (index_any _ _ _ (by assumption) (by show (1 : Nat) ≤ 35184372088832; omega)).mono ?_; rintro e w' ⟨rfl, n1, rfl⟩; rw [show L { data := #[46] } = [46] from rfl, ← HI.out])
              go_loop [6, 36] (fun v j => ∃ (q : Nat) (x : Int), q ≤ d.size ∧ j = .int .i64 (q : Int) ∧ v = .int .i64 x ∧ Hid (NU.dvb q x) ∧ Hid (NU.allDigits (L d) = NU.allDigits ((L d).drop q)) ∧ Hid (NU.dv 0 (L d) = NU.dv x ((L d).drop q))) (fun _ j => d.size - (intOf j).toNat)
              case atStart => exact ⟨0, 0, by omega, rfl, rfl, NU.dvb_zero, rfl, rfl⟩
              case round =>
                obtain ⟨q, x, hq, rfl, rfl, HB, HA, HX⟩ := hrel
                have hx0 := NU.dvb_lo HB.out
                have hx1 := NU.dvb_hi HB.out
                by_cases hqd : q < d.size
                · have HDA : Hid (NU.allDigits ((L d).drop q) = (NU.isDigit d[q] && NU.allDigits ((L d).drop (q + 1)))) := by show _ = _; rw [drop_cons d q hqd, NU.allDigits_cons]
                  have HDX : Hid (NU.dv x ((L d).drop q) = NU.dv (x * 10 + ((d[q].toNat : Int) - 48)) ((L d).drop (q + 1))) := by show _ = _; rw [drop_cons d q hqd, NU.dv]
                  by_cases hg : NU.isDigit d[q] = true
                  · have hg1 : 48 ≤ (d[q].toNat : Int) := by simp [NU.isDigit] at hg; omega
                    have hg2 : (d[q].toNat : Int) ≤ 57 := by simp [NU.isDigit] at hg; omega
                    go_wp2_with (go_at_call 27; refine (isDigit_any _ _).mono ?_; rintro e w' ⟨rfl, rfl⟩)
                    go_round
                    case rel => exact ⟨q + 1, x * 10 + ((d[q].toNat : Int) - 48), by omega, by go_num, by go_num, NU.dvb_step HB.out (by omega) hg1 hg2, by show _ = _; rw [HA.out, HDA.out, hg]; rfl, by show _ = _; rw [HX.out, HDX.out]⟩
                    case measure => simp [intOf]; omega
                  · have hg : NU.isDigit d[q] = false := by simpa using hg
                    go_wp2_with (go_at_call 27; refine (isDigit_any _ _).mono ?_; rintro e w' ⟨rfl, rfl⟩)
                    go_ret
                    exact ⟨ret_bool (by rw [HS.out, HR.out, HV.out, HA.out, HDA.out, hg]; rfl), by first | exact ⟨_, rfl⟩ | exact ⟨_, World.drewN_drewN _ _ _⟩⟩
                · have HA' : Hid (NU.allDigits (L d) = true) := by show _ = _; rw [HA.out, drop_end d q (by omega)]; rfl
                  have HX' : Hid (NU.dv 0 (L d) = x) := by show _ = _; rw [HX.out, drop_end d q (by omega)]; rfl
                  by_cases hv : 255 < x
                  · go_wp2
                    go_ret
                    exact ⟨ret_bool (by rw [HS.out, HR.out, HV.out, HX'.out, decide_eq_false (by omega : ¬ x ≤ 255)]; simp), by first | exact ⟨_, rfl⟩ | exact ⟨_, World.drewN_drewN _ _ _⟩⟩
                  · have hv' : x ≤ 255 := by omega
                    by_cases hit : i < t.size
                    all_goals by_cases hk3 : k < 3
                    · have hb1 : decide ((k : Int) < 3) = true := by simp; omega
                      have hb2 : decide (i < t.size) = true := by simpa using hit
                      go_wp2
                      go_roundw
                      case rel =>
                        refine ⟨k + 1, n + n1, _, by omega, ?_, by go_num, rfl, rfl, ?_⟩
                        · first | rw [size_L (min_drop t i hile), List.length_drop, L_length] | rw [ext_from, mk_size, List.length_drop, L_length]
                          omega
                        · show _ = _
                          have e2 : (decide (i < t.size) == decide (0 < 3 - k)) = true := by simp; omega
                          first
                            | (rw [HS.out, HR.out, HV.out, HA'.out, HX'.out, min_drop t i hile, show 4 - (k + 1) = 3 - k by omega, e2, decide_eq_true hv']; rfl)
                            | (rw [HS.out, HR.out, HV.out, HA'.out, HX'.out, ext_from, L_mk, show 4 - (k + 1) = 3 - k by omega, e2, decide_eq_true hv']; rfl)
                      case measure => simp [intOf]; omega
                    · have hb1 : decide ((k : Int) < 3) = false := by simp; omega
                      have hb2 : decide (i < t.size) = true := by simpa using hit
                      have e2 : Hid ((decide (i < t.size) == decide (0 < 3 - k)) = false) := by show _ = _; simp; omega
                      go_wp2
                      go_ret
                      exact ⟨ret_bool (by rw [HS.out, HR.out, e2.out]; simp), by first | exact ⟨_, rfl⟩ | exact ⟨_, World.drewN_drewN _ _ _⟩⟩
                    · have hb1 : decide ((k : Int) < 3) = true := by simp; omega
                      have hb2 : decide (i < t.size) = false := by simpa using hit
                      have e2 : Hid ((decide (i < t.size) == decide (0 < 3 - k)) = false) := by show _ = _; simp; omega
                      go_wp2
                      go_ret
                      exact ⟨ret_bool (by rw [HS.out, HR.out, e2.out]; simp), by first | exact ⟨_, rfl⟩ | exact ⟨_, World.drewN_drewN _ _ _⟩⟩
                    · have hb1 : decide ((k : Int) < 3) = false := by simp; omega
                      have hb2 : decide (i < t.size) = false := by simpa using hit
                      have e2 : Hid ((decide (i < t.size) == decide (0 < 3 - k)) = true) := by show _ = _; simp; omega
                      go_wp2
                      go_roundw
                      case rel =>
                        refine ⟨k + 1, n + n1, _, by omega, ?_, by go_num, rfl, rfl, ?_⟩
                        · rw [size_L (min_drop t i hile), List.length_drop, L_length]; omega
                        · show _ = _
                          rw [HS.out, HR.out, HV.out, HA'.out, HX'.out, e2.out, decide_eq_true hv', min_drop t i hile, show 4 - (k + 1) = 3 - k by omega]; rfl
                      case measure => simp [intOf]; omega
            · go_wp2_with (go_at_call 15; refine (index_any _ _ _ (by assumption) (by show (1 : Nat) ≤ 35184372088832; omega)).mono ?_; rintro e w' ⟨rfl, n1, rfl⟩; rw [show L { data := #[46] } = [46] from rfl, ← HI.out])
              go_loop [6, 36] (fun v j => ∃ (q : Nat) (x : Int), q ≤ d.size ∧ j = .int .i64 (q : Int) ∧ v = .int .i64 x ∧ Hid (NU.dvb q x) ∧ Hid (NU.allDigits (L d) = NU.allDigits ((L d).drop q)) ∧ Hid (NU.dv 0 (L d) = NU.dv x ((L d).drop q))) (fun _ j => d.size - (intOf j).toNat)
              case atStart => exact ⟨0, 0, by omega, rfl, rfl, NU.dvb_zero, rfl, rfl⟩
              case round =>
                obtain ⟨q, x, hq, rfl, rfl, HB, HA, HX⟩ := hrel
                have hx0 := NU.dvb_lo HB.out
                have hx1 := NU.dvb_hi HB.out
                by_cases hqd : q < d.size
                · have HDA : Hid (NU.allDigits ((L d).drop q) = (NU.isDigit d[q] && NU.allDigits ((L d).drop (q + 1)))) := by show _ = _; rw [drop_cons d q hqd, NU.allDigits_cons]
                  have HDX : Hid (NU.dv x ((L d).drop q) = NU.dv (x * 10 + ((d[q].toNat : Int) - 48)) ((L d).drop (q + 1))) := by show _ = _; rw [drop_cons d q hqd, NU.dv]
                  by_cases hg : NU.isDigit d[q] = true
                  · have hg1 : 48 ≤ (d[q].toNat : Int) := by simp [NU.isDigit] at hg; omega
                    have hg2 : (d[q].toNat : Int) ≤ 57 := by simp [NU.isDigit] at hg; omega
                    go_wp2_with (go_at_call 27; refine (isDigit_any _ _).mono ?_; rintro e w' ⟨rfl, rfl⟩)
                    go_round
                    case rel => exact ⟨q + 1, x * 10 + ((d[q].toNat : Int) - 48), by omega, by go_num, by go_num, NU.dvb_step HB.out (by omega) hg1 hg2, by show _ = _; rw [HA.out, HDA.out, hg]; rfl, by show _ = _; rw [HX.out, HDX.out]⟩
                    case measure => simp [intOf]; omega
                  · have hg : NU.isDigit d[q] = false := by simpa using hg
                    go_wp2_with (go_at_call 27; refine (isDigit_any _ _).mono ?_; rintro e w' ⟨rfl, rfl⟩)
                    go_ret
                    exact ⟨ret_bool (by rw [HS.out, HR.out, HV.out, HA.out, HDA.out, hg]; rfl), by first | exact ⟨_, rfl⟩ | exact ⟨_, World.drewN_drewN _ _ _⟩⟩
                · have HA' : Hid (NU.allDigits (L d) = true) := by show _ = _; rw [HA.out, drop_end d q (by omega)]; rfl
                  have HX' : Hid (NU.dv 0 (L d) = x) := by show _ = _; rw [HX.out, drop_end d q (by omega)]; rfl
                  by_cases hv : 255 < x
                  · go_wp2
                    go_ret
                    exact ⟨ret_bool (by rw [HS.out, HR.out, HV.out, HX'.out, decide_eq_false (by omega : ¬ x ≤ 255)]; simp), by first | exact ⟨_, rfl⟩ | exact ⟨_, World.drewN_drewN _ _ _⟩⟩
                  · have hv' : x ≤ 255 := by omega
                    by_cases hit : i < t.size
                    all_goals by_cases hk3 : k < 3
                    · have hb1 : decide ((k : Int) < 3) = true := by simp; omega
                      have hb2 : decide (i < t.size) = true := by simpa using hit
                      go_wp2
                      go_roundw
                      case rel =>
                        refine ⟨k + 1, n + n1, _, by omega, ?_, by go_num, rfl, rfl, ?_⟩
                        · first | rw [size_L (min_drop t i hile), List.length_drop, L_length] | rw [ext_from, mk_size, List.length_drop, L_length]
                          omega
                        · show _ = _
                          have e2 : (decide (i < t.size) == decide (0 < 3 - k)) = true := by simp; omega
                          first
                            | (rw [HS.out, HR.out, HV.out, HA'.out, HX'.out, min_drop t i hile, show 4 - (k + 1) = 3 - k by omega, e2, decide_eq_true hv']; rfl)
                            | (rw [HS.out, HR.out, HV.out, HA'.out, HX'.out, ext_from, L_mk, show 4 - (k + 1) = 3 - k by omega, e2, decide_eq_true hv']; rfl)
                      case measure => simp [intOf]; omega
                    · have hb1 : decide ((k : Int) < 3) = false := by simp; omega
                      have hb2 : decide (i < t.size) = true := by simpa using hit
                      have e2 : Hid ((decide (i < t.size) == decide (0 < 3 - k)) = false) := by show _ = _; simp; omega
                      go_wp2
                      go_ret
                      exact ⟨ret_bool (by rw [HS.out, HR.out, e2.out]; simp), by first | exact ⟨_, rfl⟩ | exact ⟨_, World.drewN_drewN _ _ _⟩⟩
                    · have hb1 : decide ((k : Int) < 3) = true := by simp; omega
                      have hb2 : decide (i < t.size) = false := by simpa using hit
                      have e2 : Hid ((decide (i < t.size) == decide (0 < 3 - k)) = false) := by show _ = _; simp; omega
                      go_wp2
                      go_ret
                      exact ⟨ret_bool (by rw [HS.out, HR.out, e2.out]; simp), by first | exact ⟨_, rfl⟩ | exact ⟨_, World.drewN_drewN _ _ _⟩⟩
                    · have hb1 : decide ((k : Int) < 3) = false := by simp; omega
                      have hb2 : decide (i < t.size) = false := by simpa using hit
                      have e2 : Hid ((decide (i < t.size) == decide (0 < 3 - k)) = true) := by show _ = _; simp; omega
                      go_wp2
                      go_roundw
                      case rel =>
                        refine ⟨k + 1, n + n1, _, by omega, ?_, by go_num, rfl, rfl, ?_⟩
                        · rw [size_L (min_drop t i hile), List.length_drop, L_length]; omega
                        · show _ = _
                          rw [HS.out, HR.out, HV.out, HA'.out, HX'.out, e2.out, decide_eq_true hv', min_drop t i hile, show 4 - (k + 1) = 3 - k by omega]; rfl
                      case measure => simp [intOf]; omega
    · obtain rfl : k = 4 := by omega
      go_wp2
      go_ret
      exact ⟨ret_bool (by rw [HS.out]; simp [NU.v4go, Lib.toList_data]), n, rfl⟩
end Go.Proofs.YtibcegbacnjmfaaGreatDoor
namespace Go.Proofs.YtibcegbacnjmfaaGreatDoor
set_option linter.unusedVariables false
set_option linter.unusedSimpArgs false
open Go.RowKit

theorem drewN_ex (w : World) (a b : Nat) : ∃ n, (w.drewN a).drewN b = w.drewN n := ⟨_, World.drewN_drewN _ _ _⟩
theorem nil_of_empty {s : ByteArray} (h : s.toList = []) : L s = [] := by rw [← h, Lib.toList_data]
def strSize : Value → Nat
  | .string t => t.size
  | _ => 0
theorem isHex_true {c : UInt8} (h : 0 ≤ NU.hexv c) : NU.isHex c = true := by simp [NU.isHex, h]
theorem isHex_false {c : UInt8} (h : NU.hexv c < 0) : NU.isHex c = false := by simp [NU.isHex, h]

set_option maxHeartbeats 2000000 in
theorem pieces_false (s : ByteArray) (w : World) (hs : s.size ≤ 35184372088832) :
    Calls Tryz.prog 50 #[.string s, .bool false] w fun e w' => e = .returned (.int .i64 (NU.pieces (L s) false)) ∧ ∃ n, w' = w.drewN n := by
  by_cases h0 : L s = []
  · have he : s.toList = [] := by rw [Lib.toList_data]; exact h0
    have HF : Hid (NU.pieces (L s) false = 0) := by show _ = _; rw [NU.pieces, if_pos h0]
    clear h0
    go_enter Tryz.func50, Tryz.ntmps50
    go_wp2
    go_ret
    exact ⟨ret_int HF.out.symm, 0, rfl⟩
  · have he : ¬ s.toList = [] := by rw [Lib.toList_data]; exact h0
    have he' : s.toList.isEmpty = false := by simpa using he
    have HF : Hid (NU.pieces (L s) false = NU.pcs false (s.size + 1) 0 (L s)) := by show _ = _; rw [NU.pieces, if_neg h0, L_length]
    clear h0
    go_enter Tryz.func50, Tryz.ntmps50
    go_wp2
    clear he he'
    go_loopw [0, 5] (fun v c wr => ∃ (f n q : Nat) (t : ByteArray), t.size < f ∧ n + t.size ≤ s.size ∧ c = .int .i64 (n : Int) ∧ v = .string t ∧ wr = w.drewN q ∧ Hid (NU.pieces (L s) false = NU.pcs false f n (L t))) (fun v _ _ => strSize v)
    case atStart => exact ⟨s.size + 1, 0, 0, s, by omega, by omega, rfl, rfl, rfl, HF⟩
    case round =>
      obtain ⟨f, n, q, t, hf, hn, rfl, rfl, rfl, HS⟩ := hrel
      obtain ⟨f, rfl⟩ : ∃ g, f = g + 1 := ⟨f - 1, by omega⟩
      have ht : t.size ≤ 35184372088832 := by omega
      have hile := NU.index_le (L t) [58]
      rw [L_length] at hile
      obtain ⟨i, hi⟩ : ∃ i, i = NU.index (L t) [58] := ⟨_, rfl⟩
      rw [← hi] at hile
      obtain ⟨p, hp⟩ : ∃ p, p = t.extract 0 i := ⟨_, rfl⟩
      have hpz0 : p.size = i := by rw [hp, ext_to, size_take _ _ hile]
      have HP : Hid (L p = (L t).take i) := by show _ = _; rw [hp, ext_to, L_mk]
      have HI : Hid (i = NU.index (L t) [58]) := hi
      have HU : Hid (NU.pcs false (f + 1) n (L t) = if i = t.size ∧ false = true ∧ NU.isIPv4 (L p) = true then (n : Int) + 2
          else if i = 0 ∨ 4 < i then -1 else if (L p).all NU.isHex = false then -1 else if i = t.size then (n : Int) + 1 else NU.pcs false f (n + 1) ((L t).drop (i + 1))) := by
        show _ = _
        rw [NU.pcs, ← hi, L_length, HP.out]
      have hp' := hp.symm
      have hpz1 : p.size ≤ i := by omega
      have hpz2 : i ≤ p.size := by omega
      have hpz : p.size ≤ 35184372088832 := by omega
      clear hi hp hpz0
      by_cases hit : i < t.size
      · have hc1 : ((i : Int) == (t.size : Int)) = false := beq_eq_false_iff_ne.2 (by omega)
        have hc2 : (i == t.size) = false := beq_eq_false_iff_ne.2 (by omega)
        have HR : Hid (NU.pcs false (f + 1) n (L t) = if i = 0 ∨ 4 < i then -1 else if (L p).all NU.isHex = false then -1 else if i = t.size then (n : Int) + 1 else NU.pcs false f (n + 1) ((L t).drop (i + 1))) := by
          show _ = _; rw [HU.out, if_neg (fun h => Nat.lt_irrefl _ (h.1 ▸ hit))]
        clear HU
        by_cases hz : i = 0 ∨ 4 < i
        · have HR' : Hid (NU.pcs false (f + 1) n (L t) = -1) := by show _ = _; rw [HR.out, if_pos hz]
          clear HR
          rcases hz with hz | hz
          · have hz0 : p.size ≤ 0 := by omega
            have hz1 : ((p.size : Int) == 0) = true := beq_iff_eq.2 (by omega)
            clear hz
            go_wp2_with (first | (go_at_call 15; refine (index_any _ _ _ (by assumption) (by show (1 : Nat) ≤ 35184372088832; omega)).mono ?_; rintro e w' ⟨rfl, n1, rfl⟩; rw [show L { data := #[58] } = [58] from rfl, ← HI.out]) | (go_at_call 66; refine (isIPv4_any _ _ hpz).mono ?_; rintro e w' ⟨rfl, n2, rfl⟩))
            go_ret
            exact ⟨ret_int (by rw [HS.out, HR'.out]), by first | exact ⟨_, rfl⟩ | exact drewN_ex _ _ _⟩
          · have hz1 : ((p.size : Int) == 0) = false := beq_eq_false_iff_ne.2 (by omega)
            have hz2 : 4 < p.size := by omega
            clear hz
            go_wp2_with (first | (go_at_call 15; refine (index_any _ _ _ (by assumption) (by show (1 : Nat) ≤ 35184372088832; omega)).mono ?_; rintro e w' ⟨rfl, n1, rfl⟩; rw [show L { data := #[58] } = [58] from rfl, ← HI.out]) | (go_at_call 66; refine (isIPv4_any _ _ hpz).mono ?_; rintro e w' ⟨rfl, n2, rfl⟩))
            go_ret
            exact ⟨ret_int (by rw [HS.out, HR'.out]), by first | exact ⟨_, rfl⟩ | exact drewN_ex _ _ _⟩
        · have hz1 : ((p.size : Int) == 0) = false := beq_eq_false_iff_ne.2 (by omega)
          have hz2 : p.size ≤ 4 := by omega
          have hz3 : 1 ≤ i := by omega
          have hz4 : i ≤ 4 := by omega
          clear hz
          go_wp2_with (first | (go_at_call 15; refine (index_any _ _ _ (by assumption) (by show (1 : Nat) ≤ 35184372088832; omega)).mono ?_; rintro e w' ⟨rfl, n1, rfl⟩; rw [show L { data := #[58] } = [58] from rfl, ← HI.out]) | (go_at_call 66; refine (isIPv4_any _ _ hpz).mono ?_; rintro e w' ⟨rfl, n2, rfl⟩))
          go_loop [39] (fun j => ∃ (m : Nat), m ≤ p.size ∧ j = .int .i64 (m : Int) ∧ Hid ((L p).all NU.isHex = ((L p).drop m).all NU.isHex)) (fun j => p.size - (intOf j).toNat)
          case atStart => exact ⟨0, by omega, rfl, rfl⟩
          case round =>
            obtain ⟨m, hm, rfl, HA⟩ := hrel
            by_cases hmp : m < p.size
            · have HD : Hid (((L p).drop m).all NU.isHex = (NU.isHex p[m] && ((L p).drop (m + 1)).all NU.isHex)) := by show _ = _; rw [drop_cons p m hmp, List.all_cons]
              by_cases hx : NU.hexv p[m] < 0
              · have hx' := isHex_false hx
                go_wp2_with (go_at_call 29; refine (hex_any _ _).mono ?_; rintro e w' ⟨rfl, rfl⟩)
                go_ret
                exact ⟨ret_int (by rw [HS.out, HR.out, if_neg (by omega), HA.out, HD.out, hx']; rfl), by first | exact ⟨_, rfl⟩ | exact drewN_ex _ _ _⟩
              · have hx1 : 0 ≤ NU.hexv p[m] := by omega
                have hx' := isHex_true hx1
                go_wp2_with (go_at_call 29; refine (hex_any _ _).mono ?_; rintro e w' ⟨rfl, rfl⟩)
                go_round
                case rel => exact ⟨m + 1, by omega, by go_num, by show _ = _; rw [HA.out, HD.out, hx']; rfl⟩
                case measure => simp [intOf]; omega
            · have HA' : Hid ((L p).all NU.isHex = true) := by show _ = _; rw [HA.out, drop_end p m (by omega)]; rfl
              clear HA
              go_wp2
              go_roundw
              case rel => exact ⟨f, n + 1, _, t.extract (i + 1) t.size, by rw [ext_from, mk_size, List.length_drop, L_length]; omega, by rw [ext_from, mk_size, List.length_drop, L_length]; omega, by go_num, rfl, rfl, by show _ = _; rw [HS.out, HR.out, if_neg (by omega), HA'.out, if_neg (by simp), if_neg (by omega), ext_from, L_mk]⟩
              case measure => simp only [strSize]; rw [ext_from, mk_size, List.length_drop, L_length]; omega
      · have hc1 : ((i : Int) == (t.size : Int)) = true := beq_iff_eq.2 (by omega)
        have hc2 : (i == t.size) = true := beq_iff_eq.2 (by omega)
        have HR : Hid (NU.pcs false (f + 1) n (L t) = if i = 0 ∨ 4 < i then -1 else if (L p).all NU.isHex = false then -1 else if i = t.size then (n : Int) + 1 else NU.pcs false f (n + 1) ((L t).drop (i + 1))) := by
          show _ = _; rw [HU.out, if_neg (fun h => Bool.false_ne_true h.2.1)]
        clear HU
        by_cases hz : i = 0 ∨ 4 < i
        · have HR' : Hid (NU.pcs false (f + 1) n (L t) = -1) := by show _ = _; rw [HR.out, if_pos hz]
          clear HR
          rcases hz with hz | hz
          · have hz0 : p.size ≤ 0 := by omega
            have hz1 : ((p.size : Int) == 0) = true := beq_iff_eq.2 (by omega)
            clear hz
            go_wp2_with (first | (go_at_call 15; refine (index_any _ _ _ (by assumption) (by show (1 : Nat) ≤ 35184372088832; omega)).mono ?_; rintro e w' ⟨rfl, n1, rfl⟩; rw [show L { data := #[58] } = [58] from rfl, ← HI.out]) | (go_at_call 66; refine (isIPv4_any _ _ hpz).mono ?_; rintro e w' ⟨rfl, n2, rfl⟩))
            go_ret
            exact ⟨ret_int (by rw [HS.out, HR'.out]), by first | exact ⟨_, rfl⟩ | exact drewN_ex _ _ _⟩
          · have hz1 : ((p.size : Int) == 0) = false := beq_eq_false_iff_ne.2 (by omega)
            have hz2 : 4 < p.size := by omega
            clear hz
            go_wp2_with (first | (go_at_call 15; refine (index_any _ _ _ (by assumption) (by show (1 : Nat) ≤ 35184372088832; omega)).mono ?_; rintro e w' ⟨rfl, n1, rfl⟩; rw [show L { data := #[58] } = [58] from rfl, ← HI.out]) | (go_at_call 66; refine (isIPv4_any _ _ hpz).mono ?_; rintro e w' ⟨rfl, n2, rfl⟩))
            go_ret
            exact ⟨ret_int (by rw [HS.out, HR'.out]), by first | exact ⟨_, rfl⟩ | exact drewN_ex _ _ _⟩
        · have hz1 : ((p.size : Int) == 0) = false := beq_eq_false_iff_ne.2 (by omega)
          have hz2 : p.size ≤ 4 := by omega
          have hz3 : 1 ≤ i := by omega
          have hz4 : i ≤ 4 := by omega
          clear hz
          go_wp2_with (first | (go_at_call 15; refine (index_any _ _ _ (by assumption) (by show (1 : Nat) ≤ 35184372088832; omega)).mono ?_; rintro e w' ⟨rfl, n1, rfl⟩; rw [show L { data := #[58] } = [58] from rfl, ← HI.out]) | (go_at_call 66; refine (isIPv4_any _ _ hpz).mono ?_; rintro e w' ⟨rfl, n2, rfl⟩))
          go_loop [39] (fun j => ∃ (m : Nat), m ≤ p.size ∧ j = .int .i64 (m : Int) ∧ Hid ((L p).all NU.isHex = ((L p).drop m).all NU.isHex)) (fun j => p.size - (intOf j).toNat)
          case atStart => exact ⟨0, by omega, rfl, rfl⟩
          case round =>
            obtain ⟨m, hm, rfl, HA⟩ := hrel
            by_cases hmp : m < p.size
            · have HD : Hid (((L p).drop m).all NU.isHex = (NU.isHex p[m] && ((L p).drop (m + 1)).all NU.isHex)) := by show _ = _; rw [drop_cons p m hmp, List.all_cons]
              by_cases hx : NU.hexv p[m] < 0
              · have hx' := isHex_false hx
                go_wp2_with (go_at_call 29; refine (hex_any _ _).mono ?_; rintro e w' ⟨rfl, rfl⟩)
                go_ret
                exact ⟨ret_int (by rw [HS.out, HR.out, if_neg (by omega), HA.out, HD.out, hx']; rfl), by first | exact ⟨_, rfl⟩ | exact drewN_ex _ _ _⟩
              · have hx1 : 0 ≤ NU.hexv p[m] := by omega
                have hx' := isHex_true hx1
                go_wp2_with (go_at_call 29; refine (hex_any _ _).mono ?_; rintro e w' ⟨rfl, rfl⟩)
                go_round
                case rel => exact ⟨m + 1, by omega, by go_num, by show _ = _; rw [HA.out, HD.out, hx']; rfl⟩
                case measure => simp [intOf]; omega
            · have HA' : Hid ((L p).all NU.isHex = true) := by show _ = _; rw [HA.out, drop_end p m (by omega)]; rfl
              clear HA
              have h9 : (i : Int) = t.size := by omega
              go_wp2
              go_ret
              exact ⟨ret_int (by rw [HS.out, HR.out, if_neg (by omega), HA'.out, if_neg (by simp), if_pos (by omega)]), by first | exact ⟨_, rfl⟩ | exact drewN_ex _ _ _⟩

set_option maxHeartbeats 2000000 in
theorem pieces_true (s : ByteArray) (w : World) (hs : s.size ≤ 35184372088832) :
    Calls Tryz.prog 50 #[.string s, .bool true] w fun e w' => e = .returned (.int .i64 (NU.pieces (L s) true)) ∧ ∃ n, w' = w.drewN n := by
  by_cases h0 : L s = []
  · have he : s.toList = [] := by rw [Lib.toList_data]; exact h0
    have HF : Hid (NU.pieces (L s) true = 0) := by show _ = _; rw [NU.pieces, if_pos h0]
    clear h0
    go_enter Tryz.func50, Tryz.ntmps50
    go_wp2
    go_ret
    exact ⟨ret_int HF.out.symm, 0, rfl⟩
  · have he : ¬ s.toList = [] := by rw [Lib.toList_data]; exact h0
    have he' : s.toList.isEmpty = false := by simpa using he
    have HF : Hid (NU.pieces (L s) true = NU.pcs true (s.size + 1) 0 (L s)) := by show _ = _; rw [NU.pieces, if_neg h0, L_length]
    clear h0
    go_enter Tryz.func50, Tryz.ntmps50
    go_wp2
    clear he he'
    go_loopw [0, 5] (fun v c wr => ∃ (f n q : Nat) (t : ByteArray), t.size < f ∧ n + t.size ≤ s.size ∧ c = .int .i64 (n : Int) ∧ v = .string t ∧ wr = w.drewN q ∧ Hid (NU.pieces (L s) true = NU.pcs true f n (L t))) (fun v _ _ => strSize v)
    case atStart => exact ⟨s.size + 1, 0, 0, s, by omega, by omega, rfl, rfl, rfl, HF⟩
    case round =>
      obtain ⟨f, n, q, t, hf, hn, rfl, rfl, rfl, HS⟩ := hrel
      obtain ⟨f, rfl⟩ : ∃ g, f = g + 1 := ⟨f - 1, by omega⟩
      have ht : t.size ≤ 35184372088832 := by omega
      have hile := NU.index_le (L t) [58]
      rw [L_length] at hile
      obtain ⟨i, hi⟩ : ∃ i, i = NU.index (L t) [58] := ⟨_, rfl⟩
      rw [← hi] at hile
      obtain ⟨p, hp⟩ : ∃ p, p = t.extract 0 i := ⟨_, rfl⟩
      have hpz0 : p.size = i := by rw [hp, ext_to, size_take _ _ hile]
      have HP : Hid (L p = (L t).take i) := by show _ = _; rw [hp, ext_to, L_mk]
      have HI : Hid (i = NU.index (L t) [58]) := hi
      have HU : Hid (NU.pcs true (f + 1) n (L t) = if i = t.size ∧ true = true ∧ NU.isIPv4 (L p) = true then (n : Int) + 2
          else if i = 0 ∨ 4 < i then -1 else if (L p).all NU.isHex = false then -1 else if i = t.size then (n : Int) + 1 else NU.pcs true f (n + 1) ((L t).drop (i + 1))) := by
        show _ = _
        rw [NU.pcs, ← hi, L_length, HP.out]
      have hp' := hp.symm
      have hpz1 : p.size ≤ i := by omega
      have hpz2 : i ≤ p.size := by omega
      have hpz : p.size ≤ 35184372088832 := by omega
      clear hi hp hpz0
      by_cases hit : i < t.size
      · have hc1 : ((i : Int) == (t.size : Int)) = false := beq_eq_false_iff_ne.2 (by omega)
        have hc2 : (i == t.size) = false := beq_eq_false_iff_ne.2 (by omega)
        have HR : Hid (NU.pcs true (f + 1) n (L t) = if i = 0 ∨ 4 < i then -1 else if (L p).all NU.isHex = false then -1 else if i = t.size then (n : Int) + 1 else NU.pcs true f (n + 1) ((L t).drop (i + 1))) := by
          show _ = _; rw [HU.out, if_neg (fun h => Nat.lt_irrefl _ (h.1 ▸ hit))]
        clear HU
        by_cases hz : i = 0 ∨ 4 < i
        · have HR' : Hid (NU.pcs true (f + 1) n (L t) = -1) := by show _ = _; rw [HR.out, if_pos hz]
          clear HR
          rcases hz with hz | hz
          · have hz0 : p.size ≤ 0 := by omega
            have hz1 : ((p.size : Int) == 0) = true := beq_iff_eq.2 (by omega)
            clear hz
            go_wp2_with (first | (go_at_call 15; refine (index_any _ _ _ (by assumption) (by show (1 : Nat) ≤ 35184372088832; omega)).mono ?_; rintro e w' ⟨rfl, n1, rfl⟩; rw [show L { data := #[58] } = [58] from rfl, ← HI.out]) | (go_at_call 66; refine (isIPv4_any _ _ hpz).mono ?_; rintro e w' ⟨rfl, n2, rfl⟩))
            go_ret
            exact ⟨ret_int (by rw [HS.out, HR'.out]), by first | exact ⟨_, rfl⟩ | exact drewN_ex _ _ _⟩
          · have hz1 : ((p.size : Int) == 0) = false := beq_eq_false_iff_ne.2 (by omega)
            have hz2 : 4 < p.size := by omega
            clear hz
            go_wp2_with (first | (go_at_call 15; refine (index_any _ _ _ (by assumption) (by show (1 : Nat) ≤ 35184372088832; omega)).mono ?_; rintro e w' ⟨rfl, n1, rfl⟩; rw [show L { data := #[58] } = [58] from rfl, ← HI.out]) | (go_at_call 66; refine (isIPv4_any _ _ hpz).mono ?_; rintro e w' ⟨rfl, n2, rfl⟩))
            go_ret
            exact ⟨ret_int (by rw [HS.out, HR'.out]), by first | exact ⟨_, rfl⟩ | exact drewN_ex _ _ _⟩
        · have hz1 : ((p.size : Int) == 0) = false := beq_eq_false_iff_ne.2 (by omega)
          have hz2 : p.size ≤ 4 := by omega
          have hz3 : 1 ≤ i := by omega
          have hz4 : i ≤ 4 := by omega
          clear hz
          go_wp2_with (first | (go_at_call 15; refine (index_any _ _ _ (by assumption) (by show (1 : Nat) ≤ 35184372088832; omega)).mono ?_; rintro e w' ⟨rfl, n1, rfl⟩; rw [show L { data := #[58] } = [58] from rfl, ← HI.out]) | (go_at_call 66; refine (isIPv4_any _ _ hpz).mono ?_; rintro e w' ⟨rfl, n2, rfl⟩))
          go_loop [39] (fun j => ∃ (m : Nat), m ≤ p.size ∧ j = .int .i64 (m : Int) ∧ Hid ((L p).all NU.isHex = ((L p).drop m).all NU.isHex)) (fun j => p.size - (intOf j).toNat)
          case atStart => exact ⟨0, by omega, rfl, rfl⟩
          case round =>
            obtain ⟨m, hm, rfl, HA⟩ := hrel
            by_cases hmp : m < p.size
            · have HD : Hid (((L p).drop m).all NU.isHex = (NU.isHex p[m] && ((L p).drop (m + 1)).all NU.isHex)) := by show _ = _; rw [drop_cons p m hmp, List.all_cons]
              by_cases hx : NU.hexv p[m] < 0
              · have hx' := isHex_false hx
                go_wp2_with (go_at_call 29; refine (hex_any _ _).mono ?_; rintro e w' ⟨rfl, rfl⟩)
                go_ret
                exact ⟨ret_int (by rw [HS.out, HR.out, if_neg (by omega), HA.out, HD.out, hx']; rfl), by first | exact ⟨_, rfl⟩ | exact drewN_ex _ _ _⟩
              · have hx1 : 0 ≤ NU.hexv p[m] := by omega
                have hx' := isHex_true hx1
                go_wp2_with (go_at_call 29; refine (hex_any _ _).mono ?_; rintro e w' ⟨rfl, rfl⟩)
                go_round
                case rel => exact ⟨m + 1, by omega, by go_num, by show _ = _; rw [HA.out, HD.out, hx']; rfl⟩
                case measure => simp [intOf]; omega
            · have HA' : Hid ((L p).all NU.isHex = true) := by show _ = _; rw [HA.out, drop_end p m (by omega)]; rfl
              clear HA
              go_wp2
              go_roundw
              case rel => exact ⟨f, n + 1, _, t.extract (i + 1) t.size, by rw [ext_from, mk_size, List.length_drop, L_length]; omega, by rw [ext_from, mk_size, List.length_drop, L_length]; omega, by go_num, rfl, rfl, by show _ = _; rw [HS.out, HR.out, if_neg (by omega), HA'.out, if_neg (by simp), if_neg (by omega), ext_from, L_mk]⟩
              case measure => simp only [strSize]; rw [ext_from, mk_size, List.length_drop, L_length]; omega
      · have hc1 : ((i : Int) == (t.size : Int)) = true := beq_iff_eq.2 (by omega)
        have hc2 : (i == t.size) = true := beq_iff_eq.2 (by omega)
        by_cases hv : NU.isIPv4 (L p) = true
        · have HR : Hid (NU.pcs true (f + 1) n (L t) = (n : Int) + 2) := by
            show _ = _; rw [HU.out, if_pos ⟨by omega, rfl, hv⟩]
          clear HU
          go_wp2_with (first | (go_at_call 15; refine (index_any _ _ _ (by assumption) (by show (1 : Nat) ≤ 35184372088832; omega)).mono ?_; rintro e w' ⟨rfl, n1, rfl⟩; rw [show L { data := #[58] } = [58] from rfl, ← HI.out]) | (go_at_call 66; refine (isIPv4_any _ _ hpz).mono ?_; rintro e w' ⟨rfl, n2, rfl⟩))
          go_ret
          exact ⟨ret_int (by rw [HS.out, HR.out]), by first | exact ⟨_, rfl⟩ | exact drewN_ex _ _ _⟩
        · have hv : NU.isIPv4 (L p) = false := by simpa using hv
          have HR : Hid (NU.pcs true (f + 1) n (L t) = if i = 0 ∨ 4 < i then -1 else if (L p).all NU.isHex = false then -1 else if i = t.size then (n : Int) + 1 else NU.pcs true f (n + 1) ((L t).drop (i + 1))) := by
            show _ = _; rw [HU.out, if_neg (fun h => by rw [hv] at h; exact Bool.false_ne_true h.2.2)]
          clear HU
          by_cases hz : i = 0 ∨ 4 < i
          · have HR' : Hid (NU.pcs true (f + 1) n (L t) = -1) := by show _ = _; rw [HR.out, if_pos hz]
            clear HR
            rcases hz with hz | hz
            · have hz0 : p.size ≤ 0 := by omega
              have hz1 : ((p.size : Int) == 0) = true := beq_iff_eq.2 (by omega)
              clear hz
              go_wp2_with (first | (go_at_call 15; refine (index_any _ _ _ (by assumption) (by show (1 : Nat) ≤ 35184372088832; omega)).mono ?_; rintro e w' ⟨rfl, n1, rfl⟩; rw [show L { data := #[58] } = [58] from rfl, ← HI.out]) | (go_at_call 66; refine (isIPv4_any _ _ hpz).mono ?_; rintro e w' ⟨rfl, n2, rfl⟩))
              go_ret
              exact ⟨ret_int (by rw [HS.out, HR'.out]), by first | exact ⟨_, rfl⟩ | exact drewN_ex _ _ _⟩
            · have hz1 : ((p.size : Int) == 0) = false := beq_eq_false_iff_ne.2 (by omega)
              have hz2 : 4 < p.size := by omega
              clear hz
              go_wp2_with (first | (go_at_call 15; refine (index_any _ _ _ (by assumption) (by show (1 : Nat) ≤ 35184372088832; omega)).mono ?_; rintro e w' ⟨rfl, n1, rfl⟩; rw [show L { data := #[58] } = [58] from rfl, ← HI.out]) | (go_at_call 66; refine (isIPv4_any _ _ hpz).mono ?_; rintro e w' ⟨rfl, n2, rfl⟩))
              go_ret
              exact ⟨ret_int (by rw [HS.out, HR'.out]), by first | exact ⟨_, rfl⟩ | exact drewN_ex _ _ _⟩
          · have hz1 : ((p.size : Int) == 0) = false := beq_eq_false_iff_ne.2 (by omega)
            have hz2 : p.size ≤ 4 := by omega
            have hz3 : 1 ≤ i := by omega
            have hz4 : i ≤ 4 := by omega
            clear hz
            go_wp2_with (first | (go_at_call 15; refine (index_any _ _ _ (by assumption) (by show (1 : Nat) ≤ 35184372088832; omega)).mono ?_; rintro e w' ⟨rfl, n1, rfl⟩; rw [show L { data := #[58] } = [58] from rfl, ← HI.out]) | (go_at_call 66; refine (isIPv4_any _ _ hpz).mono ?_; rintro e w' ⟨rfl, n2, rfl⟩))
            go_loop [39] (fun j => ∃ (m : Nat), m ≤ p.size ∧ j = .int .i64 (m : Int) ∧ Hid ((L p).all NU.isHex = ((L p).drop m).all NU.isHex)) (fun j => p.size - (intOf j).toNat)
            case atStart => exact ⟨0, by omega, rfl, rfl⟩
            case round =>
              obtain ⟨m, hm, rfl, HA⟩ := hrel
              by_cases hmp : m < p.size
              · have HD : Hid (((L p).drop m).all NU.isHex = (NU.isHex p[m] && ((L p).drop (m + 1)).all NU.isHex)) := by show _ = _; rw [drop_cons p m hmp, List.all_cons]
                by_cases hx : NU.hexv p[m] < 0
                · have hx' := isHex_false hx
                  go_wp2_with (go_at_call 29; refine (hex_any _ _).mono ?_; rintro e w' ⟨rfl, rfl⟩)
                  go_ret
                  exact ⟨ret_int (by rw [HS.out, HR.out, if_neg (by omega), HA.out, HD.out, hx']; rfl), by first | exact ⟨_, rfl⟩ | exact drewN_ex _ _ _⟩
                · have hx1 : 0 ≤ NU.hexv p[m] := by omega
                  have hx' := isHex_true hx1
                  go_wp2_with (go_at_call 29; refine (hex_any _ _).mono ?_; rintro e w' ⟨rfl, rfl⟩)
                  go_round
                  case rel => exact ⟨m + 1, by omega, by go_num, by show _ = _; rw [HA.out, HD.out, hx']; rfl⟩
                  case measure => simp [intOf]; omega
              · have HA' : Hid ((L p).all NU.isHex = true) := by show _ = _; rw [HA.out, drop_end p m (by omega)]; rfl
                clear HA
                have h9 : (i : Int) = t.size := by omega
                go_wp2
                go_ret
                exact ⟨ret_int (by rw [HS.out, HR.out, if_neg (by omega), HA'.out, if_neg (by simp), if_pos (by omega)]), by first | exact ⟨_, rfl⟩ | exact drewN_ex _ _ _⟩
end Go.Proofs.YtibcegbacnjmfaaGreatDoor
namespace Go.Proofs.YtibcegbacnjmfaaGreatDoor
set_option linter.unusedVariables false
set_option linter.unusedSimpArgs false
open Go.RowKit

theorem pieces_any (s : ByteArray) (last : Bool) (w : World) (hs : s.size ≤ 35184372088832) :
    Calls Tryz.prog 50 #[.string s, .bool last] w fun e w' => e = .returned (.int .i64 (NU.pieces (L s) last)) ∧ ∃ n, w' = w.drewN n := by
  cases last
  · exact pieces_false s w hs
  · exact pieces_true s w hs

set_option maxHeartbeats 1000000 in
theorem isIPv6_any (s : ByteArray) (w : World) (hs : s.size ≤ 35184372088832) :
    Calls Tryz.prog 31 #[.string s] w fun e w' => e = .returned (.bool (NU.isIPv6 (L s))) ∧ ∃ n, w' = w.drewN n := by
  go_enter Tryz.func31, Tryz.ntmps31
  go_wp2
  go_loop [3] (fun i => ∃ k : Nat, k ≤ s.size ∧ i = .int .i64 (k : Int) ∧ Hid (NU.fsub [58, 58] (L s) = if NU.fsub [58, 58] ((L s).drop k) < 0 then -1 else NU.fsub [58, 58] ((L s).drop k) + k)) (fun i => s.size + 1 - (intOf i).toNat)
  case atStart => exact ⟨0, by omega, rfl, by
    show _ = _
    have := NU.fsub_lo [58, 58] (L s)
    simp only [List.drop_zero]; split <;> omega⟩
  case round =>
    obtain ⟨k, hk, rfl, HS⟩ := hrel
    by_cases hlt : k + 1 < s.size
    · have hk0 : k < s.size := by omega
      have HD : Hid (NU.fsub [58, 58] ((L s).drop k) = if (s[k] == 58 && s[k + 1] == 58) = true then 0 else if NU.fsub [58, 58] ((L s).drop (k + 1)) < 0 then -1 else NU.fsub [58, 58] ((L s).drop (k + 1)) + 1) := by
        show _ = _
        rw [drop_cons s k hk0, drop_cons s (k + 1) hlt, NU.fsub_dbl]
      by_cases hc : (s[k] == 58 && s[k + 1] == 58) = true
      · have HF : Hid (NU.fsub [58, 58] (L s) = k) := by show _ = _; rw [HS.out, HD.out, if_pos hc]; simp
        simp only [Bool.and_eq_true] at hc
        obtain ⟨hc1, hc2⟩ := hc
        rw [← u8_eq] at hc1 hc2
        have hc1' : ((s[k].toNat : Int) == 58) = true := hc1
        have hc2' : ((s[k + 1].toNat : Int) == 58) = true := hc2
        have HZ : Hid (NU.isIPv6 (L s) = (decide (0 ≤ NU.pieces ((L s).take k) false) && decide (0 ≤ NU.pieces ((L s).drop (k + 2)) true) && decide (NU.pieces ((L s).take k) false + NU.pieces ((L s).drop (k + 2)) true ≤ 7))) := by
          show _ = _
          rw [NU.isIPv6, HF.out, if_neg (by omega), Int.toNat_natCast]
        obtain ⟨p, hp⟩ : ∃ p, p = s.extract 0 k := ⟨_, rfl⟩
        obtain ⟨q, hq⟩ : ∃ q, q = s.extract (k + 2) s.size := ⟨_, rfl⟩
        have HP : Hid (L p = (L s).take k) := by show _ = _; rw [hp, ext_to, L_mk]
        have HQ : Hid (L q = (L s).drop (k + 2)) := by show _ = _; rw [hq, ext_from, L_mk]
        have hpz : p.size ≤ 35184372088832 := by rw [← L_length, HP.out, List.length_take, L_length]; omega
        have hqz : q.size ≤ 35184372088832 := by rw [← L_length, HQ.out, List.length_drop, L_length]; omega
        have hp' := hp.symm
        have hq' := hq.symm
        have hk2 : k + 2 ≤ s.size := hlt
        obtain ⟨A, hA⟩ : ∃ A, A = NU.pieces (L p) false := ⟨_, rfl⟩
        obtain ⟨B, hB⟩ : ∃ B, B = NU.pieces (L q) true := ⟨_, rfl⟩
        have a1 : -1 ≤ A := hA ▸ NU.pieces_lo _ _
        have a2 : A ≤ 70368744177664 := by have := NU.pieces_hi (L p) false; rw [L_length] at this; omega
        have b1 : -1 ≤ B := hB ▸ NU.pieces_lo _ _
        have b2 : B ≤ 70368744177664 := by have := NU.pieces_hi (L q) true; rw [L_length] at this; omega
        have HZ' : Hid (NU.isIPv6 (L s) = (decide (0 ≤ A) && decide (0 ≤ B) && decide (A + B ≤ 7))) := by show _ = _; rw [HZ.out, hA, hB, HP.out, HQ.out]
        have cA : ∀ W, Calls Tryz.prog 50 #[.string p, .bool false] W fun e w' => e = .returned (.int .i64 A) ∧ ∃ n, w' = W.drewN n := fun W => hA ▸ pieces_any p false W hpz
        have cB : ∀ W, Calls Tryz.prog 50 #[.string q, .bool true] W fun e w' => e = .returned (.int .i64 B) ∧ ∃ n, w' = W.drewN n := fun W => hB ▸ pieces_any q true W hqz
        have CA := Lib.hid cA
        have CB := Lib.hid cB
        clear HZ hA hB hp hq hc1 hc2 cA cB HS HD
        go_wp2
        go_quiet ((first | (go_at_call_of 50 (Value.string p); exact Calls.quiet_of (CA.out _)) | (go_at_call_of 50 (Value.string q); exact Calls.quiet_of (CB.out _))))
        go_wp2
        all_goals go_ret
        all_goals refine ⟨ret_bool ?_, _, rfl⟩
        all_goals rw [HZ'.out]
        all_goals (rw [Bool.eq_iff_iff]; simp; try omega)
      · have hc' : ((s[k].toNat : Int) == 58) = false ∨ (((s[k].toNat : Int) == 58) = true ∧ ((s[k + 1].toNat : Int) == 58) = false) := by
          have e1 := u8_eq s[k] 58
          have e2 := u8_eq s[k+1] 58
          rw [show ((58 : UInt8).toNat : Int) = 58 from rfl] at e1 e2
          rw [e1, e2]
          revert hc
          cases s[k] == 58 <;> cases s[k + 1] == 58 <;> simp
        have HN : Hid (NU.fsub [58, 58] (L s) = if NU.fsub [58, 58] ((L s).drop (k + 1)) < 0 then -1 else NU.fsub [58, 58] ((L s).drop (k + 1)) + (k + 1 : Nat)) := by
          show _ = _
          have := NU.fsub_lo [58, 58] ((L s).drop (k + 1))
          rw [HS.out, HD.out, if_neg hc]; (repeat' split) <;> omega
        clear HS HD hc
        rcases hc' with h | ⟨h, h'⟩
        all_goals
          go_wp2
          go_round
          case rel => exact ⟨k + 1, by omega, by go_num, HN⟩
          case measure => simp [intOf]; omega
    · have HF : Hid (NU.fsub [58, 58] (L s) = -1) := by
        show _ = _
        rw [HS.out, NU.fsub_short _ (by rw [List.length_drop, L_length]; omega)]; rfl
      have HZ : Hid (NU.isIPv6 (L s) = decide (NU.pieces (L s) true = 8)) := by show _ = _; rw [NU.isIPv6, HF.out]; rfl
      clear HS HF
      go_wp2_with (go_at_call 50; refine (pieces_any _ _ _ hs).mono ?_; rintro e w' ⟨rfl, n1, rfl⟩)
      go_ret
      exact ⟨ret_bool (by rw [HZ.out, Bool.eq_iff_iff]; simp), _, rfl⟩

set_option maxHeartbeats 1000000 in
theorem isScheme_any (s : ByteArray) (w : World) (hs : s.size ≤ 35184372088832) :
    Calls Tryz.prog 17 #[.string s] w fun e w' => e = .returned (.bool (NU.schm (L s))) ∧ Fr w w' := by
  go_enter Tryz.func17, Tryz.ntmps17
  go_wp2
  go_loopw [6] (fun i wr => ∃ k : Nat, k ≤ s.size ∧ i = .int .i64 (k : Int) ∧ Fr w wr ∧ Hid (NU.sgo true (L s) = NU.sgo (k == 0) ((L s).drop k))) (fun i _ => s.size - (intOf i).toNat)
  case atStart => exact ⟨0, by omega, rfl, Fr.refl _, rfl⟩
  case round =>
    obtain ⟨k, hk, rfl, hfr, HS⟩ := hrel
    by_cases hlt : k < s.size
    · obtain ⟨b, hb⟩ : ∃ b, b = (k == 0) := ⟨_, rfl⟩
      have HI : Hid (NU.sgo b ((L s).drop k) = ((NU.isAlpha s[k] || !b && (NU.isDigit s[k] || NU.mem [43, 45, 46] s[k])) && NU.sgo false ((L s).drop (k + 1)))) := by
        show _ = _
        rw [drop_cons s k hlt, NU.sgo]
      have HN : Hid (NU.sgo ((k + 1) == 0) ((L s).drop (k + 1)) = NU.sgo false ((L s).drop (k + 1))) := rfl
      have hb1 : ((k : Int) == 0) = b := by rw [hb, Bool.eq_iff_iff]; simp
      rw [← hb] at HS
      clear hb
      cases b
      all_goals
        go_wp2_with (first
          | (go_at_call 27; refine (isDigit_any _ _).mono ?_; rintro e w' ⟨rfl, rfl⟩)
          | (go_at_call 26; refine (isAlpha_any _ _).mono ?_; rintro e w' ⟨rfl, rfl⟩)
          | (go_at_call 28; refine (has_any _ _ _ (by show (3 : Nat) ≤ 35184372088832; omega)).mono ?_; rintro e w' ⟨rfl, hf⟩))
        all_goals first
          | (go_ret
             refine ⟨ret_bool ?_, by repeat (first | exact hfr | refine Fr.trans ?_ (by assumption))⟩
             rw [NU.schm, HS.out, HI.out]
             simp_all; done)
          | (go_roundw
             case rel =>
               refine ⟨k + 1, by omega, by go_num, by repeat (first | exact hfr | refine Fr.trans ?_ (by assumption)), ?_⟩
               show _ = _
               rw [HS.out, HI.out, HN.out]
               simp_all
             case measure => simp [intOf]; omega)
    · go_wp2
      go_ret
      exact ⟨ret_bool (by rw [NU.schm, HS.out, drop_end s k (by omega), NU.sgo, Bool.true_and, Lib.toList_data]), hfr⟩
end Go.Proofs.YtibcegbacnjmfaaGreatDoor
