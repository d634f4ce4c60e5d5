import Derived.Test.YtcbmfimafiolaaaW15
namespace Go.Proofs.Ytcbmfimafiolaaa
open Go.RowKit

set_option maxHeartbeats 400000 in
theorem SplitHostPort_any (s : ByteArray) (w : World) (hs : s.size ≤ 1099511627776) :
    Calls Try.prog 36 #[.string s] w fun e w' => e = .returned (.tuple #[.string (mk (NU.shH (L s))), .string (mk (NU.shP (L s)))]) ∧ Fr w w' := by
  go_enter Try.func36, Try.ntmps36
  go_wp2_with (go_at_call 48; refine (splitHostPort_any _ _ hs).mono ?_; rintro e w' ⟨rfl, hf⟩)
  go_ret2
  exact ⟨rfl, by assumption⟩
set_option maxHeartbeats 400000 in
theorem implHostPort_any (s : ByteArray) (w : World) (hs : s.size ≤ 1099511627776) :
    Calls Try.prog 17 #[.string s] w fun e w' => e = .returned (.tuple #[.string (mk (NU.shH (L s))), .string (mk (NU.shP (L s)))]) ∧ Fr w w' := by
  go_enter Try.func17, Try.ntmps17
  go_wp2_with (go_at_call 36; refine (SplitHostPort_any _ _ hs).mono ?_; rintro e w' ⟨rfl, hf⟩)
  go_ret2
  exact ⟨rfl, by assumption⟩

set_option maxRecDepth 100000 in
set_option maxHeartbeats 1000000 in
theorem specHostPort_any (s : ByteArray) (w : World) (hs : s.size ≤ 1099511627776) :
    Calls Try.prog 16 #[.string s] w fun e w' => e = .returned (.tuple #[.string (mk (NU.hpH (L s))), .string (mk (NU.hpP (L s))), .bool (NU.hpOk (L s))]) ∧ ∃ n, w' = w.drewN n := by
  obtain ⟨n, hn⟩ : ∃ n, n = NU.index (L s) [91, 93] := ⟨_, rfl⟩
  have hnle : n ≤ s.size := by rw [hn, ← L_length]; exact NU.index_le _ _
  have CI := Lib.hid (fun W => index_any s ⟨#[91, 93]⟩ W hs (by show (2 : Nat) ≤ 1099511627776; omega))
  rw [show L ⟨#[91, 93]⟩ = [91, 93] from rfl, ← hn] at CI
  have HO : Hid (NU.hpOk (L s) = !decide (n < s.size)) := by show _ = _; rw [NU.hpOk, ← hn, L_length]
  clear hn
  go_enter Try.func16, Try.ntmps16
  by_cases hlt : n < s.size
  · have HF : Hid (NU.hpOk (L s) = false ∧ NU.hpH (L s) = [] ∧ NU.hpP (L s) = []) := by
      have e : NU.hpOk (L s) = false := by rw [HO.out]; simpa using hlt
      exact ⟨e, by rw [NU.hpH, e]; rfl, by rw [NU.hpP, e]; rfl⟩
    clear HO
    go_wp2_with (go_at_call 27; refine (CI.out _).mono ?_; rintro e w' ⟨rfl, n1, rfl⟩)
    go_ret3
    exact ⟨ret_ssb (by rw [HF.out.2.1]; rfl) (by rw [HF.out.2.2]; rfl) HF.out.1.symm, _, rfl⟩
  · have HF : Hid (NU.hpOk (L s) = true) := by show _ = _; rw [HO.out]; simpa using hlt
    clear HO
    go_wp2_with (go_at_call 27; refine (CI.out _).mono ?_; rintro e w' ⟨rfl, n1, rfl⟩)
    go_loop [5] (fun i => ∃ k : Nat, k ≤ s.size ∧ i = .int .i64 ((k : Int) - 1) ∧ Hid (NU.lastIdx 58 (L s) = NU.lastIdx 58 ((L s).take k))) (fun i => ((intOf i) + 1).toNat)
    case atStart => exact ⟨s.size, by omega, rfl, by show _ = _; rw [List.take_of_length_le (by rw [L_length]; omega)]⟩
    case round =>
      obtain ⟨k, hk, rfl, HS⟩ := hrel
      by_cases h0 : k = 0
      · have h1 : ¬ (1 : Int) ≤ k := by omega
        have h2 : ¬ (0 : Int) ≤ (k : Int) - 1 := by omega
        have HN : Hid (NU.hpH (L s) = L s ∧ NU.hpP (L s) = []) := by
          have e : NU.lastIdx 58 (L s) = -1 := by rw [HS.out, h0]; rfl
          have e' : NU.hpD (L s) = false := by rw [NU.hpD, e]; rfl
          exact ⟨by rw [NU.hpH, HF.out, e']; rfl, by rw [NU.hpP, HF.out, e']; rfl⟩
        clear HS h0
        go_wp2
        go_ret3
        exact ⟨ret_ssb (by rw [HN.out.1, mk_L]) (by rw [HN.out.2]; rfl) HF.out.symm, by first | exact ⟨_, rfl⟩ | exact drewN_ex _ _ _⟩
      · obtain ⟨m, rfl⟩ : ∃ m, k = m + 1 := ⟨k - 1, by omega⟩
        have hm : m < s.size := by omega
        have HI : Hid (NU.lastIdx 58 ((L s).take (m + 1)) = if s[m] == 58 then (m : Int) else NU.lastIdx 58 ((L s).take m)) := by
          show _ = _
          have e1 : (L s).take (m + 1) = (L s).take m ++ [s[m]] := by
            rw [List.take_succ_eq_append_getElem (by rw [L_length]; exact hm)]; rfl
          have e2 : ((L s).take m).length = m := by rw [List.length_take, L_length]; omega
          rw [e1, NU.lastIdx_snoc, e2]
        have e3 : (((m + 1 : Nat) : Int) - 1) = (m : Int) := by omega
        rw [e3]
        clear h0 e3
        have e8 := u8_eq s[m] 58
        rw [show ((58 : UInt8).toNat : Int) = 58 from rfl] at e8
        by_cases hc : ((s[m].toNat : Int) == 58) = true
        · have HL : Hid (NU.lastIdx 58 (L s) = m) := by show _ = _; rw [HS.out, HI.out, ← e8, hc]; rfl
          obtain ⟨q, hq⟩ : ∃ q, q = s.extract (m + 1) s.size := ⟨_, rfl⟩
          have HQ : Hid (L q = (L s).drop (m + 1)) := by show _ = _; rw [hq, ext_from, L_mk]
          have hqz : q.size ≤ 1099511627776 := by rw [← L_length, HQ.out, List.length_drop, L_length]; omega
          have hq' := hq.symm
          have hm2 : m + 1 ≤ s.size := hm
          have HD : Hid (NU.hpD (L s) = NU.allDigits (L q)) := by show _ = _; rw [NU.hpD, HL.out, HQ.out, Int.toNat_natCast]; simp
          have CA := Lib.hid (fun W => allDigits_any q W hqz)
          clear hq HS HI e8
          by_cases hd : NU.allDigits (L q) = true
          · have HN : Hid (mk (NU.hpH (L s)) = s.extract 0 m ∧ mk (NU.hpP (L s)) = q) := by
              have e' : NU.hpD (L s) = true := by rw [HD.out, hd]
              exact ⟨by rw [NU.hpH, HF.out, e', HL.out, ext_to]; rfl, by rw [NU.hpP, HF.out, e', HL.out, if_pos rfl, if_pos rfl, Int.toNat_natCast, ← HQ.out, mk_L]⟩
            rw [hd] at CA
            clear hd HD HL HQ
            go_wp2_with (go_at_call 10; refine (CA.out _).mono ?_; rintro e w' ⟨rfl, rfl⟩)
            go_quiet (fail)
            go_wp2
            go_ret3
            exact ⟨ret_ssb HN.out.1.symm HN.out.2.symm HF.out.symm, by first | exact ⟨_, rfl⟩ | exact drewN_ex _ _ _⟩
          · have hd : NU.allDigits (L q) = false := by simpa using hd
            have HN : Hid (NU.hpH (L s) = L s ∧ NU.hpP (L s) = []) := by
              have e' : NU.hpD (L s) = false := by rw [HD.out, hd]
              exact ⟨by rw [NU.hpH, HF.out, e']; rfl, by rw [NU.hpP, HF.out, e']; rfl⟩
            rw [hd] at CA
            clear hd HD HL HQ
            go_wp2_with (go_at_call 10; refine (CA.out _).mono ?_; rintro e w' ⟨rfl, rfl⟩)
            go_ret3
            exact ⟨ret_ssb (by rw [HN.out.1, mk_L]) (by rw [HN.out.2]; rfl) HF.out.symm, by first | exact ⟨_, rfl⟩ | exact drewN_ex _ _ _⟩
        · have hc : ((s[m].toNat : Int) == 58) = false := by simpa using hc
          have HN : Hid (NU.lastIdx 58 (L s) = NU.lastIdx 58 ((L s).take m)) := by show _ = _; rw [HS.out, HI.out, ← e8, hc]; rfl
          clear HS HI e8
          go_wp2
          go_round
          case rel => exact ⟨m, by omega, rfl, HN⟩
          case measure => first | (simp [intOf]; done) | (simp [intOf]; omega)

set_option maxHeartbeats 1000000 in
theorem FnHostPort_any (s : ByteArray) (w : World) :
    Calls Try.prog 6 #[.string s] w fun e w' => e = .returned (.bool true) ∧ Fr w w' := by
  by_cases hb : s.size ≤ 2147483647
  · have hs : s.size ≤ 1099511627776 := by omega
    have C1 := Lib.hid (fun W => specHostPort_any s W hs)
    have C2 := Lib.hid (fun W => implHostPort_any s W hs)
    by_cases ho : NU.hpOk (L s) = true
    · have hl := NU.hostPort_law (L s) ho
      rw [hl.1, hl.2] at C2
      rw [ho] at C1
      obtain ⟨a, ha⟩ : ∃ a, a = mk (NU.hpH (L s)) := ⟨_, rfl⟩
      obtain ⟨b, hb'⟩ : ∃ b, b = mk (NU.hpP (L s)) := ⟨_, rfl⟩
      rw [← ha, ← hb'] at C1 C2
      clear ho hl ha hb'
      go_enter Try.func6, Try.ntmps6
      go_wp2_with (first
        | (go_at_call 16; refine (C1.out _).mono ?_; rintro e w1 ⟨rfl, n1, rfl⟩)
        | (go_at_call 17; refine (C2.out _).mono ?_; rintro e w2 ⟨rfl, hf2⟩))
      go_ret
      exact ⟨rfl, ((Fr.refl _).drewN _).trans hf2⟩
    · have ho : NU.hpOk (L s) = false := by simpa using ho
      rw [ho] at C1
      clear ho
      go_enter Try.func6, Try.ntmps6
      go_wp2_with (first
        | (go_at_call 16; refine (C1.out _).mono ?_; rintro e w1 ⟨rfl, n1, rfl⟩)
        | (go_at_call 17; refine (C2.out _).mono ?_; rintro e w2 ⟨rfl, hf2⟩))
      go_ret
      exact ⟨rfl, ((Fr.refl _).drewN _).trans hf2⟩
  · have hb : 2147483647 < (s.size : Int) := by omega
    go_enter Try.func6, Try.ntmps6
    go_wp2
    go_ret
    exact ⟨rfl, Fr.refl _⟩
end Go.Proofs.Ytcbmfimafiolaaa
