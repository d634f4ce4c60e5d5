import Derived.Test.YtcbmfimafiolaaaW6
import Derived.Deep.RegionWith
namespace Go.Proofs.Ytcbmfimafiolaaa
set_option linter.unusedVariables false
set_option linter.unusedSimpArgs false
open Go.RowKit

theorem pieces_any (s : ByteArray) (last : Bool) (w : World) (hs : s.size ≤ 1099511627776) :
    Calls Try.prog 49 #[.string s, .bool last] w fun e w' => e = .returned (.int .i64 (NU.pieces (L s) last)) ∧ ∃ n, w' = w.drewN n := by
  cases last
  · exact pieces_false s w hs
  · exact pieces_true s w hs

set_option maxHeartbeats 1000000 in
theorem isIPv6_any (s : ByteArray) (w : World) (hs : s.size ≤ 1099511627776) :
    Calls Try.prog 37 #[.string s] w fun e w' => e = .returned (.bool (NU.isIPv6 (L s))) ∧ ∃ n, w' = w.drewN n := by
  go_enter Try.func37, Try.ntmps37
  go_wp2
  go_loop [3] (fun i => ∃ k : Nat, k ≤ s.size ∧ i = .int .i64 (k : Int) ∧ Hid (NU.fsub [58, 58] (L s) = if NU.fsub [58, 58] ((L s).drop k) < 0 then -1 else NU.fsub [58, 58] ((L s).drop k) + k)) (fun i => s.size + 1 - (intOf i).toNat)
  case atStart => exact ⟨0, by omega, rfl, by
    show _ = _
    have := NU.fsub_lo [58, 58] (L s)
    simp only [List.drop_zero]; split <;> omega⟩
  case round =>
    obtain ⟨k, hk, rfl, HS⟩ := hrel
    by_cases hlt : k + 1 < s.size
    · have hk0 : k < s.size := by omega
      have HD : Hid (NU.fsub [58, 58] ((L s).drop k) = if (s[k] == 58 && s[k + 1] == 58) = true then 0 else if NU.fsub [58, 58] ((L s).drop (k + 1)) < 0 then -1 else NU.fsub [58, 58] ((L s).drop (k + 1)) + 1) := by
        show _ = _
        rw [drop_cons s k hk0, drop_cons s (k + 1) hlt, NU.fsub_dbl]
      by_cases hc : (s[k] == 58 && s[k + 1] == 58) = true
      · have HF : Hid (NU.fsub [58, 58] (L s) = k) := by show _ = _; rw [HS.out, HD.out, if_pos hc]; simp
        simp only [Bool.and_eq_true] at hc
        obtain ⟨hc1, hc2⟩ := hc
        rw [← u8_eq] at hc1 hc2
        have hc1' : ((s[k].toNat : Int) == 58) = true := hc1
        have hc2' : ((s[k + 1].toNat : Int) == 58) = true := hc2
        have HZ : Hid (NU.isIPv6 (L s) = (decide (0 ≤ NU.pieces ((L s).take k) false) && decide (0 ≤ NU.pieces ((L s).drop (k + 2)) true) && decide (NU.pieces ((L s).take k) false + NU.pieces ((L s).drop (k + 2)) true ≤ 7))) := by
          show _ = _
          rw [NU.isIPv6, HF.out, if_neg (by omega), Int.toNat_natCast]
        obtain ⟨p, hp⟩ : ∃ p, p = s.extract 0 k := ⟨_, rfl⟩
        obtain ⟨q, hq⟩ : ∃ q, q = s.extract (k + 2) s.size := ⟨_, rfl⟩
        have HP : Hid (L p = (L s).take k) := by show _ = _; rw [hp, ext_to, L_mk]
        have HQ : Hid (L q = (L s).drop (k + 2)) := by show _ = _; rw [hq, ext_from, L_mk]
        have hpz : p.size ≤ 1099511627776 := by rw [← L_length, HP.out, List.length_take, L_length]; omega
        have hqz : q.size ≤ 1099511627776 := by rw [← L_length, HQ.out, List.length_drop, L_length]; omega
        have hp' := hp.symm
        have hq' := hq.symm
        have hk2 : k + 2 ≤ s.size := hlt
        obtain ⟨A, hA⟩ : ∃ A, A = NU.pieces (L p) false := ⟨_, rfl⟩
        obtain ⟨B, hB⟩ : ∃ B, B = NU.pieces (L q) true := ⟨_, rfl⟩
        have a1 : -1 ≤ A := hA ▸ NU.pieces_lo _ _
        have a2 : A ≤ 2199023255552 := by have := NU.pieces_hi (L p) false; rw [L_length] at this; omega
        have b1 : -1 ≤ B := hB ▸ NU.pieces_lo _ _
        have b2 : B ≤ 2199023255552 := by have := NU.pieces_hi (L q) true; rw [L_length] at this; omega
        have HZ' : Hid (NU.isIPv6 (L s) = (decide (0 ≤ A) && decide (0 ≤ B) && decide (A + B ≤ 7))) := by show _ = _; rw [HZ.out, hA, hB, HP.out, HQ.out]
        have cA : ∀ W, Calls Try.prog 49 #[.string p, .bool false] W fun e w' => e = .returned (.int .i64 A) ∧ ∃ n, w' = W.drewN n := fun W => hA ▸ pieces_any p false W hpz
        have cB : ∀ W, Calls Try.prog 49 #[.string q, .bool true] W fun e w' => e = .returned (.int .i64 B) ∧ ∃ n, w' = W.drewN n := fun W => hB ▸ pieces_any q true W hqz
        have CA := Lib.hid cA
        have CB := Lib.hid cB
        clear HZ hA hB hp hq hc1 hc2 cA cB HS HD
        go_wp2
        go_quiet ((first | (go_at_call_of 49 (Value.string p); exact Calls.quiet_of (CA.out _)) | (go_at_call_of 49 (Value.string q); exact Calls.quiet_of (CB.out _))))
        go_wp2
        all_goals go_ret
        all_goals refine ⟨ret_bool ?_, _, rfl⟩
        all_goals rw [HZ'.out]
        all_goals (rw [Bool.eq_iff_iff]; simp; try omega)
      · have hc' : ((s[k].toNat : Int) == 58) = false ∨ (((s[k].toNat : Int) == 58) = true ∧ ((s[k + 1].toNat : Int) == 58) = false) := by
          have e1 := u8_eq s[k] 58
          have e2 := u8_eq s[k+1] 58
          rw [show ((58 : UInt8).toNat : Int) = 58 from rfl] at e1 e2
          rw [e1, e2]
          revert hc
          cases s[k] == 58 <;> cases s[k + 1] == 58 <;> simp
        have HN : Hid (NU.fsub [58, 58] (L s) = if NU.fsub [58, 58] ((L s).drop (k + 1)) < 0 then -1 else NU.fsub [58, 58] ((L s).drop (k + 1)) + (k + 1 : Nat)) := by
          show _ = _
          have := NU.fsub_lo [58, 58] ((L s).drop (k + 1))
          rw [HS.out, HD.out, if_neg hc]; (repeat' split) <;> omega
        clear HS HD hc
        rcases hc' with h | ⟨h, h'⟩
        all_goals
          go_wp2
          go_round
          case rel => exact ⟨k + 1, by omega, by go_num, HN⟩
          case measure => simp [intOf]; omega
    · have HF : Hid (NU.fsub [58, 58] (L s) = -1) := by
        show _ = _
        rw [HS.out, NU.fsub_short _ (by rw [List.length_drop, L_length]; omega)]; rfl
      have HZ : Hid (NU.isIPv6 (L s) = decide (NU.pieces (L s) true = 8)) := by show _ = _; rw [NU.isIPv6, HF.out]; rfl
      clear HS HF
      go_wp2_with (go_at_call 49; refine (pieces_any _ _ _ hs).mono ?_; rintro e w' ⟨rfl, n1, rfl⟩)
      go_ret
      exact ⟨ret_bool (by rw [HZ.out, Bool.eq_iff_iff]; simp), _, rfl⟩

set_option maxHeartbeats 1000000 in
theorem isScheme_any (s : ByteArray) (w : World) (hs : s.size ≤ 1099511627776) :
    Calls Try.prog 29 #[.string s] w fun e w' => e = .returned (.bool (NU.schm (L s))) ∧ Fr w w' := by
  go_enter Try.func29, Try.ntmps29
  go_wp2
  go_loopw [6] (fun i wr => ∃ k : Nat, k ≤ s.size ∧ i = .int .i64 (k : Int) ∧ Fr w wr ∧ Hid (NU.sgo true (L s) = NU.sgo (k == 0) ((L s).drop k))) (fun i _ => s.size - (intOf i).toNat)
  case atStart => exact ⟨0, by omega, rfl, Fr.refl _, rfl⟩
  case round =>
    obtain ⟨k, hk, rfl, hfr, HS⟩ := hrel
    by_cases hlt : k < s.size
    · obtain ⟨b, hb⟩ : ∃ b, b = (k == 0) := ⟨_, rfl⟩
      have HI : Hid (NU.sgo b ((L s).drop k) = ((NU.isAlpha s[k] || !b && (NU.isDigit s[k] || NU.mem [43, 45, 46] s[k])) && NU.sgo false ((L s).drop (k + 1)))) := by
        show _ = _
        rw [drop_cons s k hlt, NU.sgo]
      have HN : Hid (NU.sgo ((k + 1) == 0) ((L s).drop (k + 1)) = NU.sgo false ((L s).drop (k + 1))) := rfl
      have hb1 : ((k : Int) == 0) = b := by rw [hb, Bool.eq_iff_iff]; simp
      rw [← hb] at HS
      clear hb
      cases b
      all_goals
        go_wp2_with (first
          | (go_at_call 26; refine (isDigit_any _ _).mono ?_; rintro e w' ⟨rfl, rfl⟩)
          | (go_at_call 44; refine (isAlpha_any _ _).mono ?_; rintro e w' ⟨rfl, rfl⟩)
          | (go_at_call 34; refine (has_any _ _ _ (by show (3 : Nat) ≤ 1099511627776; omega)).mono ?_; rintro e w' ⟨rfl, hf⟩))
        all_goals first
          | (go_ret
             refine ⟨ret_bool ?_, by repeat (first | exact hfr | refine Fr.trans ?_ (by assumption))⟩
             rw [NU.schm, HS.out, HI.out]
             simp_all; done)
          | (go_roundw
             case rel =>
               refine ⟨k + 1, by omega, by go_num, by repeat (first | exact hfr | refine Fr.trans ?_ (by assumption)), ?_⟩
               show _ = _
               rw [HS.out, HI.out, HN.out]
               simp_all
             case measure => simp [intOf]; omega)
    · go_wp2
      go_ret
      exact ⟨ret_bool (by rw [NU.schm, HS.out, drop_end s k (by omega), NU.sgo, Bool.true_and, Lib.toList_data]), hfr⟩
end Go.Proofs.Ytcbmfimafiolaaa
