import Derived.Test.YtlholchmgheemaaDoorW61
namespace Go.Proofs.YtlholchmgheemaaDoor
set_option linter.unusedVariables false
set_option linter.unusedSimpArgs false
open Go.RowKit Go.Maps

set_option maxHeartbeats 2000000 in
theorem Count_any (s : ByteArray) (hs : s.size ≤ 35184372088832) (w : World) :
    Calls Tryd.prog 8 #[.string s] w fun e w' => e = .returned (.int .i64 (NU.cnt 38 (L s) : Nat)) ∧ w = w' := by
  go_enter Tryd.func8, Tryd.ntmps8
  go_wp2
  go_loop [3, 7] (fun n i => ∃ (k c : Nat), k ≤ s.size ∧ c ≤ k ∧ i = .int .i64 (k : Int) ∧ n = .int .i64 (c : Int) ∧ Hid (NU.cnt 38 (L s) = c + NU.cnt 38 ((L s).drop k))) (fun _ i => s.size - (intOf i).toNat)
  case atStart => exact ⟨0, 0, by omega, by omega, rfl, rfl, by show _ = _; simp⟩
  case round =>
    obtain ⟨k, c, hk, hck, rfl, rfl, HC⟩ := hrel
    by_cases hlt : k < s.size
    · have hb := u8beq s[k] 38
      have hdr : NU.cnt 38 ((L s).drop k) = (if s[k] == 38 then 1 else 0) + NU.cnt 38 ((L s).drop (k + 1)) := by rw [drop_cons s k hlt, NU.cnt_cons]
      by_cases hc : ((s[k].toNat : Int) == 38) = true
      · have hb43 : (s[k] == 38) = true := by rw [← hb]; exact hc
        have HN : Hid (NU.cnt 38 (L s) = (c + 1) + NU.cnt 38 ((L s).drop (k + 1))) := by show _ = _; rw [HC.out, hdr, if_pos hb43]; omega
        clear hb hdr hb43
        go_wp2
        go_round
        case rel => exact ⟨k + 1, c + 1, by omega, by omega, by first | rfl | go_num, by first | rfl | go_num, HN⟩
        case measure => first | (simp [intOf]; done) | (simp [intOf]; omega)
      · have hc : ((s[k].toNat : Int) == 38) = false := by simpa using hc
        have hb43 : ¬ (s[k] == 38) = true := by rw [← hb]; intro h; rw [show ((38 : UInt8).toNat : Int) = 38 from rfl, hc] at h; cases h
        have HN : Hid (NU.cnt 38 (L s) = c + NU.cnt 38 ((L s).drop (k + 1))) := by show _ = _; rw [HC.out, hdr, if_neg hb43]; omega
        clear hb hdr hb43
        go_wp2
        go_round
        case rel => exact ⟨k + 1, c, by omega, by omega, by first | rfl | go_num, rfl, HN⟩
        case measure => first | (simp [intOf]; done) | (simp [intOf]; omega)
    · have hkk : k = s.size := by omega
      subst hkk
      have HN : Hid (NU.cnt 38 (L s) = c) := by
        show _ = _
        rw [HC.out, drop_end s s.size (by omega), NU.cnt_nil]; omega
      clear HC
      go_wp2
      go_ret
      exact ⟨by rw [HN.out]; rfl, rfl⟩
set_option maxRecDepth 100000 in
set_option maxHeartbeats 4000000 in
theorem FnQuery_any (s : ByteArray) (w : World) (ht : Tab w) :
    Calls Tryd.prog 3 #[.string s] w fun e w' => e = .returned (.bool true) ∧ Fr w w' := by
  by_cases hb : s.size ≤ 2147483647
  · obtain ⟨c, hc⟩ : ∃ c, c = NU.cnt 38 (L s) := ⟨_, rfl⟩
    have CC := Lib.hid (Count_any s (by omega))
    rw [← hc] at CC
    have hcs : c ≤ s.size := by rw [hc, ← L_length]; exact NU.cnt_le _ _
    have C2 := Lib.hid queries_any
    replace ht := Lib.hid ht
    by_cases h5 : c ≤ 5000
    · have C1 := Lib.hid (implParseQuery_any s (by omega))
      have C3 := Lib.hid (sParseQuery_any s (by omega) (by omega))
      have hqp : NU.qparse (L s) = NU.qrun (L s) ([], false) := by unfold NU.qparse; rw [if_neg (by omega)]
      obtain ⟨M1, e1, hm1⟩ : ∃ M1 e1, NU.qparse (L s) = (M1, e1) := ⟨_, _, rfl⟩
      obtain ⟨M2, o2, u2, hm2⟩ : ∃ M2 o2 u2, NU.sparse (L s) = (M2, o2, u2) := ⟨_, _, _, rfl⟩
      have HSAME : Hid (u2 = true → M1 = M2 ∧ e1 = !o2) := by
        show _ → _
        intro hu
        have := NU.parse_same (L s) (by rw [hm2]; exact hu)
        rw [← hqp, hm1, hm2] at this
        exact ⟨congrArg Prod.fst this, congrArg Prod.snd this⟩
      rw [hm1] at C1
      rw [hm2] at C3
      have CS := Lib.hid (fun v1 v2 W (hF : Hid (Few M1)) (hG : Hid (Few M2)) h1 h2 => SamePairs_any v1 v2 M1 M2 W hF.out.1 hG.out.1 (Lib.hid hF.out.2) (Lib.hid hG.out.2) h1 h2)
      clear hc hqp hm1 hm2 hcs
      cases u2
      case false =>
        clear HSAME CS
        go_enter Tryd.func3, Tryd.ntmps3
        go_wp2_with (first
          | (go_at_call 8; (with_reducible refine (CC.out _).mono ?_); rintro e w0 ⟨rfl, rfl⟩)
          | (go_at_call 10; (with_reducible refine (C3.out _).mono ?_); rintro e w1 ⟨v1, S1, rfl, hf1, hp1, hfew1⟩; replace hf1 := Lib.hid hf1; replace hp1 := Lib.hid hp1.at)
          | (go_at_call 11; (with_reducible refine (C1.out _ (Lib.hid (ht.out.fr hf1.out))).mono ?_); rintro e w2 ⟨v2, S2, rfl, hf2, hp2, hfew2⟩; replace hf2 := Lib.hid (hf1.out.trans hf2); replace hp2 := Lib.hid hp2.at)
          | (go_at_call 9; (with_reducible refine (C2.out _ (Lib.hid (ht.out.fr hf2.out))).mono ?_); rintro e w3 ⟨rfl, hf3⟩; replace hf3 := Lib.hid (hf2.out.trans hf3)))
        go_ret
        exact ⟨rfl, hf3.out⟩
      case true =>
        obtain ⟨rfl, rfl⟩ := HSAME.out rfl
        rw [decide_eq_true rfl] at CS
        rw [show (!(!o2)) = o2 by simp] at C1
        clear HSAME
        go_enter Tryd.func3, Tryd.ntmps3
        go_wp2_with (first
          | (go_at_call 8; (with_reducible refine (CC.out _).mono ?_); rintro e w0 ⟨rfl, rfl⟩)
          | (go_at_call 10; (with_reducible refine (C3.out _).mono ?_); rintro e w1 ⟨v1, S1, rfl, hf1, hp1, hfew1⟩; replace hf1 := Lib.hid hf1; replace hp1 := Lib.hid hp1.at; replace hfew1 := Lib.hid hfew1)
          | (go_at_call 11; (with_reducible refine (C1.out _ (Lib.hid (ht.out.fr hf1.out))).mono ?_); rintro e w2 ⟨v2, S2, rfl, hf2, hp2, hfew2⟩; have hf12 := Lib.hid hf2; replace hf2 := Lib.hid (hf1.out.trans hf2); replace hp2 := Lib.hid hp2.at)
          | (go_at_call 9; (with_reducible refine (C2.out _ (Lib.hid (ht.out.fr hf2.out))).mono ?_); rintro e w3 ⟨rfl, hf3⟩; have hf23 := Lib.hid hf3; replace hf3 := Lib.hid (hf2.out.trans hf3))
          | (go_at_call 12; (with_reducible refine (CS.out _ _ _ hfew1 hfew1 (hp2.out.fr hf23.out) (hp1.out.fr (hf12.out.trans hf23.out))).mono ?_); rintro e w4 ⟨rfl, hf4⟩; replace hf4 := Lib.hid (hf3.out.trans hf4)))
        go_ret
        exact ⟨by first | rfl | (cases o2 <;> rfl), hf4.out⟩
    · have h5' : 5000 < (c : Int) := by omega
      clear hc
      go_enter Tryd.func3, Tryd.ntmps3
      go_wp2_with (first
        | (go_at_call 8; (with_reducible refine (CC.out _).mono ?_); rintro e w0 ⟨rfl, rfl⟩)
        | (go_at_call 9; (with_reducible refine (C2.out _ ht).mono ?_); rintro e w3 ⟨rfl, hf3⟩))
      go_ret
      exact ⟨rfl, hf3⟩
  · have hb : 2147483647 < (s.size : Int) := by omega
    go_enter Tryd.func3, Tryd.ntmps3
    go_wp2
    go_ret
    exact ⟨rfl, Fr.refl _⟩
end Go.Proofs.YtlholchmgheemaaDoor
