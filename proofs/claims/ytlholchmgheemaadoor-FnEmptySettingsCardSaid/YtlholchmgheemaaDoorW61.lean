import Derived.Test.YtlholchmgheemaaDoorW60
import Derived.Test.YtlholchmgheemaaDoorW59
namespace Go.Proofs.YtlholchmgheemaaDoor
set_option linter.unusedVariables false
set_option linter.unusedSimpArgs false
open Go.RowKit Go.Maps

set_option maxRecDepth 100000 in
set_option maxHeartbeats 16000000 in
theorem sParseQuery_any (s : ByteArray) (hs : s.size ≤ 137438953472) (hc : NU.cnt 38 (L s) ≤ 5000) (w : World) :
    Calls Tryd.prog 10 #[.string s] w fun e w' => ∃ v S, e = .returned (.tuple #[v, .bool (NU.sparse (L s)).2.1, .bool (NU.sparse (L s)).2.2]) ∧ Fr w w' ∧ Pairs w.heap.size w' v S (NU.sparse (L s)).1 ∧ Few (NU.sparse (L s)).1 := by
  have HC := Lib.hid hc
  have H0 := Lib.hid (sparse_start (L s))
  obtain ⟨b0, hb0⟩ : ∃ b, b = (!decide (L s = [])) := ⟨_, rfl⟩
  have hbb : (!(s.toList == (⟨#[]⟩ : ByteArray).toList)) = b0 := by
    rw [hb0, Lib.toList_data, Lib.toList_data]; show (!(L s == [])) = _; rw [Bool.eq_iff_iff]; simp
  have HC0 : Hid (srem b0 (L s) ≤ 5001) := by show _ ≤ _; unfold srem; split <;> omega
  rw [← hb0] at H0
  clear hc hb0
  go_enter Tryd.func10, Tryd.ntmps10
  go_wp2
  go_loopw [0, 2, 3, 4, 5] (fun q v ok su mo wr => ∃ (t : ByteArray) (S : SL) (M : NU.QM) (okb sub mb : Bool) (k : Nat), q = .string t ∧ ok = .bool okb ∧ su = .bool sub ∧ mo = .bool mb ∧ t.size ≤ s.size ∧ Hid (k + srem mb (L t) ≤ 5001) ∧ S.length ≤ k ∧ k ≤ 5001 ∧ Hid (Fr w wr) ∧ Hid (Pairs w.heap.size wr v S M) ∧ Hid (QLen M k) ∧ Hid (NU.sparse (L s) = if mb then NU.srun (L t) (M, okb, sub) else (M, okb, sub))) (fun q _ _ _ mo _ => sleft q mo)
  case atStart => exact ⟨s, [], [], true, true, b0, 0, rfl, rfl, rfl, by first | rfl | (rw [← hbb]; simp), Nat.le_refl _, by show _ ≤ _; rw [Nat.zero_add]; exact HC0.out, by simp, by omega, Fr.refl _, Pairs.nil _ _, (fun _ _ h => (by cases h)), H0.out⟩
  case round =>
    obtain ⟨t, S, M, okb, sub, mb, k, rfl, rfl, rfl, rfl, hts, HK, hSk, hk, HB, HP, HL, HS⟩ := hrel
    cases mb
    case false =>
      have HS2 : Hid (NU.sparse (L s) = (M, okb, sub)) := HS.out
      clear HS
      go_wp2
      go_ret3
      rw [HS2.out]
      refine ⟨_, S, rfl, HB.out, HP.out, ?_, fun i hi => ?_⟩
      · have := HP.out.svs.len; show M.length ≤ _; omega
      · have := HL.out _ _ (NU.look_of_mem HP.out.svs.sm (List.getElem_mem hi)); omega
    case true =>
      obtain ⟨n, hn⟩ : ∃ n, n = NU.index (L t) (L ⟨#[38]⟩) := ⟨_, rfl⟩
      obtain ⟨one, t', nm, hone, hz1, hN, hrem, hz2, hms, hst⟩ := sround t n hn
      have HMS := Lib.hid hms
      have HK1 : Hid (k + 1 + srem nm (L t') ≤ 5001) := by show _ ≤ _; have := HK.out; omega
      have HS2 : Hid (NU.sparse (L s) = if nm then NU.srun (L t') (NU.sstep (L one) (M, okb, sub)) else NU.sstep (L one) (M, okb, sub)) := by show _ = _; rw [HS.out, if_pos rfl, hst]
      have CI := Lib.hid (index_fr t ⟨#[38]⟩ n hn (by omega) (by show (1 : Nat) ≤ 35184372088832; omega))
      have hnle : n ≤ t.size := by rcases hN with h | h <;> omega
      clear hn hst hrem hms HS HK
      by_cases h0 : L one = []
      · have q0 := L_empty h0
        have HS3 : Hid (NU.sparse (L s) = if nm then NU.srun (L t') (M, okb, false) else (M, okb, false)) := by show _ = _; rw [HS2.out, sstep_empty h0]
        clear h0 HS2
        rcases hN with ⟨hlt, rfl, hr⟩ | ⟨rfl, rfl, rfl, rfl⟩
        all_goals
          go_wp2_with (go_at_call 18; (with_reducible refine (CI.out _).mono ?_); rintro e1 w1 ⟨rfl, hf1⟩)
          go_roundw
          case rel => exact ⟨_, S, M, okb, false, _, k, rfl, rfl, rfl, rfl, by omega, by show _ ≤ _; have := HK1.out; omega, hSk, hk, HB.out.trans hf1, HP.out.fr hf1, HL, HS3⟩
          case measure => exact HMS.out
      · have q0 := L_nempty h0
        obtain ⟨m, hm⟩ : ∃ m, m = NU.index (L one) (L ⟨#[61]⟩) := ⟨_, rfl⟩
        obtain ⟨j, hj⟩ : ∃ m, m = NU.index (L one) (L ⟨#[59]⟩) := ⟨_, rfl⟩
        have CE := Lib.hid (index_fr one ⟨#[61]⟩ m hm (by omega) (by show (1 : Nat) ≤ 35184372088832; omega))
        have CJ := Lib.hid (index_fr one ⟨#[59]⟩ j hj (by omega) (by show (1 : Nat) ≤ 35184372088832; omega))
        have hmle : m ≤ one.size := by rw [hm, ← L_length]; exact NU.index_le _ _
        have hjle : j ≤ one.size := by rw [hj, ← L_length]; exact NU.index_le _ _
        have HJ : Hid (NU.mem (L one) 59 = decide (j < one.size)) := by show _ = _; rw [NU.mem_index, hj, L_length, show L ⟨#[59]⟩ = [59] from rfl]
        obtain ⟨kb, hkb⟩ : ∃ kb, one.extract 0 m = kb := ⟨_, rfl⟩
        obtain ⟨mm, hmm⟩ : ∃ mm, min (m + 1) one.size = mm := ⟨_, rfl⟩
        obtain ⟨vb, hvb⟩ : ∃ vb, one.extract mm one.size = vb := ⟨_, rfl⟩
        have hcut := NU.cut_index 61 (L one)
        have hkl : NU.cutB [61] (L one) = L kb := by rw [hcut.1, ← hkb, ext_to, L_mk, hm, show L ⟨#[61]⟩ = [61] from rfl]
        have hvl : NU.cutA [61] (L one) = L vb := by
          have hm' : NU.index (L one) [61] = m := by rw [hm, show L ⟨#[61]⟩ = [61] from rfl]
          rw [hcut.2.1, ← hvb, ext_from, L_mk, ← hmm, hm']
          by_cases hq : m + 1 ≤ one.size
          · rw [Nat.min_eq_left hq]
          · rw [Nat.min_eq_right (by omega), List.drop_eq_nil_of_le (by rw [L_length]; omega), List.drop_eq_nil_of_le (by rw [L_length]; omega)]
        have hz3 : kb.size ≤ s.size := by have := NU.cutB_len [61] (L one); rw [hkl, L_length, L_length] at this; omega
        have hz4 : vb.size ≤ s.size := by have := NU.cutA_len [61] (L one); rw [hvl, L_length, L_length] at this; omega
        obtain ⟨pk, hpk⟩ : ∃ p, p = mk (NU.plus (L kb)) := ⟨_, rfl⟩
        obtain ⟨pv, hpv⟩ : ∃ p, p = mk (NU.plus (L vb)) := ⟨_, rfl⟩
        have CPK := Lib.hid (plus_named kb pk hpk (by omega))
        have CPV := Lib.hid (plus_named vb pv hpv (by omega))
        have CDK := Lib.hid (sdec_any kb pk hpk (by omega))
        have CDV := Lib.hid (sdec_any vb pv hpv (by omega))
        have HBad : Hid (NU.mem (L one) 59 = true ∨ NU.dec true (L kb) = none ∨ NU.dec true (L vb) = none → NU.sparse (L s) = if nm then NU.srun (L t') (M, false, sub) else (M, false, sub)) := by
          show _ → _; intro hd; rw [HS2.out, sstep_bad h0 (by rw [hkl, hvl]; exact hd)]
        have HGood : Hid (∀ x y, NU.mem (L one) 59 = false → NU.dec true (L kb) = some x → NU.dec true (L vb) = some y → NU.sparse (L s) = if nm then NU.srun (L t') (NU.qput x y M, okb, sub) else (NU.qput x y M, okb, sub)) := by
          show ∀ x y, _ → _ → _ → _; intro x y hj' hx hy; rw [HS2.out, sstep_good h0 hj' (by rw [hkl]; exact hx) (by rw [hvl]; exact hy)]
        have hM : (m + 1 ≤ one.size ∧ m + 1 = mm) ∨ (one.size = m ∧ one.size = mm ∧ one = kb ∧ ByteArray.empty = vb) := by
          by_cases hq : m + 1 ≤ one.size
          · exact .inl ⟨hq, by omega⟩
          · have e1 : one.size = m := by omega
            have e2 : one.size = mm := by omega
            refine .inr ⟨e1, e2, ?_, ?_⟩
            · rw [← hkb, ← e1]; simp
            · rw [← hvb, ← e2]; simp
        have HZK : Hid (∀ x, NU.dec true (L kb) = some x → x.length ≤ s.size) := by show ∀ x, _ → _; intro x hx; have := NU.dec_len true _ _ _ (Nat.le_refl _) hx; rw [L_length] at this; omega
        clear hmm hm hj hcut hkl hvl hpk hpv h0 HS2
        obtain ⟨dk, hdk⟩ : ∃ d, d = NU.dec true (L kb) := ⟨_, rfl⟩
        obtain ⟨dv, hdv⟩ : ∃ d, d = NU.dec true (L vb) := ⟨_, rfl⟩
        rw [← hdk] at CDK HBad HGood HZK
        rw [← hdv] at CDV HBad HGood
        clear hdk hdv
        cases hsm : decide (j < one.size)
        case true =>
          have hjl : j < one.size := by simpa using hsm
          have HS3 : Hid (NU.sparse (L s) = if nm then NU.srun (L t') (M, false, sub) else (M, false, sub)) := HBad.out (.inl (by rw [HJ.out, hsm]))
          clear HBad HGood hsm
          rcases hM with ⟨hml, rfl⟩ | ⟨rfl, rfl, rfl, rfl⟩
          all_goals rcases hN with ⟨hlt, rfl, hr⟩ | ⟨rfl, rfl, rfl, rfl⟩
          all_goals
            go_wp2_with (first
              | (go_at_call 18; (with_reducible refine (CI.out _).mono ?_); rintro e1 w1 ⟨rfl, hf1⟩; replace hf1 := Lib.hid hf1)
              | (go_at_call 18; (with_reducible refine (CE.out _).mono ?_); rintro e1 w2 ⟨rfl, hf2⟩; replace hf2 := Lib.hid (hf1.out.trans hf2))
              | (go_at_call 20; (with_reducible refine (CPK.out _).mono ?_); rintro e1 w3 ⟨rfl, hf3⟩; replace hf3 := Lib.hid (hf2.out.trans hf3))
              | (go_at_call 19; (with_reducible refine (CDK.out _).mono ?_); rintro e1 w4 ⟨rfl, hf4⟩; replace hf4 := Lib.hid (hf3.out.trans hf4))
              | (go_at_call 20; (with_reducible refine (CPV.out _).mono ?_); rintro e1 w5 ⟨rfl, hf5⟩; replace hf5 := Lib.hid (hf4.out.trans hf5))
              | (go_at_call 19; (with_reducible refine (CDV.out _).mono ?_); rintro e1 w6 ⟨rfl, hf6⟩; replace hf6 := Lib.hid (hf5.out.trans hf6))
              | (go_at_call 18; (with_reducible refine (CJ.out _).mono ?_); rintro e1 w7 ⟨rfl, hf7⟩; replace hf7 := Lib.hid (hf6.out.trans hf7)))
            go_roundw
            case rel => exact ⟨_, S, M, false, sub, _, k, rfl, rfl, rfl, rfl, by omega, by show _ ≤ _; have := HK1.out; omega, hSk, hk, HB.out.trans hf7.out, HP.out.fr hf7.out, HL, HS3⟩
            case measure => exact HMS.out
        case false =>
          have hjl : j = one.size := by have := hsm; simp at this; omega
          rw [hsm] at HJ
          clear hsm
          cases dk with
          | none =>
            have HS3 : Hid (NU.sparse (L s) = if nm then NU.srun (L t') (M, false, sub) else (M, false, sub)) := HBad.out (.inr (.inl rfl))
            clear HBad HGood
            subst hjl
            rcases hM with ⟨hml, rfl⟩ | ⟨rfl, rfl, rfl, rfl⟩
            all_goals rcases hN with ⟨hlt, rfl, hr⟩ | ⟨rfl, rfl, rfl, rfl⟩
            all_goals
              go_wp2_with (first
                | (go_at_call 18; (with_reducible refine (CI.out _).mono ?_); rintro e1 w1 ⟨rfl, hf1⟩; replace hf1 := Lib.hid hf1)
                | (go_at_call 18; (with_reducible refine (CE.out _).mono ?_); rintro e1 w2 ⟨rfl, hf2⟩; replace hf2 := Lib.hid (hf1.out.trans hf2))
                | (go_at_call 20; (with_reducible refine (CPK.out _).mono ?_); rintro e1 w3 ⟨rfl, hf3⟩; replace hf3 := Lib.hid (hf2.out.trans hf3))
                | (go_at_call 19; (with_reducible refine (CDK.out _).mono ?_); rintro e1 w4 ⟨rfl, hf4⟩; replace hf4 := Lib.hid (hf3.out.trans hf4))
                | (go_at_call 20; (with_reducible refine (CPV.out _).mono ?_); rintro e1 w5 ⟨rfl, hf5⟩; replace hf5 := Lib.hid (hf4.out.trans hf5))
                | (go_at_call 19; (with_reducible refine (CDV.out _).mono ?_); rintro e1 w6 ⟨rfl, hf6⟩; replace hf6 := Lib.hid (hf5.out.trans hf6))
                | (go_at_call 18; (with_reducible refine (CJ.out _).mono ?_); rintro e1 w7 ⟨rfl, hf7⟩; replace hf7 := Lib.hid (hf6.out.trans hf7)))
              go_roundw
              case rel => exact ⟨_, S, M, false, sub, _, k, rfl, rfl, rfl, rfl, by omega, by show _ ≤ _; have := HK1.out; omega, hSk, hk, HB.out.trans hf7.out, HP.out.fr hf7.out, HL, HS3⟩
              case measure => exact HMS.out
          | some x =>
            obtain ⟨kx, hkx⟩ : ∃ kx, kx = mk x := ⟨_, rfl⟩
            have hxl : x = L kx := by rw [hkx, L_mk]
            subst hxl
            have hkz : kx.size ≤ 4398046511104 := by have := HZK.out _ rfl; rw [L_length] at this; omega
            rw [Option.getD_some, ← hkx] at CDK
            clear hkx HZK
            cases dv with
            | none =>
              have HS3 : Hid (NU.sparse (L s) = if nm then NU.srun (L t') (M, false, sub) else (M, false, sub)) := HBad.out (.inr (.inr rfl))
              clear HBad HGood
              subst hjl
              rcases hM with ⟨hml, rfl⟩ | ⟨rfl, rfl, rfl, rfl⟩
              all_goals rcases hN with ⟨hlt, rfl, hr⟩ | ⟨rfl, rfl, rfl, rfl⟩
              all_goals
                go_wp2_with (first
                  | (go_at_call 18; (with_reducible refine (CI.out _).mono ?_); rintro e1 w1 ⟨rfl, hf1⟩; replace hf1 := Lib.hid hf1)
                  | (go_at_call 18; (with_reducible refine (CE.out _).mono ?_); rintro e1 w2 ⟨rfl, hf2⟩; replace hf2 := Lib.hid (hf1.out.trans hf2))
                  | (go_at_call 20; (with_reducible refine (CPK.out _).mono ?_); rintro e1 w3 ⟨rfl, hf3⟩; replace hf3 := Lib.hid (hf2.out.trans hf3))
                  | (go_at_call 19; (with_reducible refine (CDK.out _).mono ?_); rintro e1 w4 ⟨rfl, hf4⟩; replace hf4 := Lib.hid (hf3.out.trans hf4))
                  | (go_at_call 20; (with_reducible refine (CPV.out _).mono ?_); rintro e1 w5 ⟨rfl, hf5⟩; replace hf5 := Lib.hid (hf4.out.trans hf5))
                  | (go_at_call 19; (with_reducible refine (CDV.out _).mono ?_); rintro e1 w6 ⟨rfl, hf6⟩; replace hf6 := Lib.hid (hf5.out.trans hf6))
                  | (go_at_call 18; (with_reducible refine (CJ.out _).mono ?_); rintro e1 w7 ⟨rfl, hf7⟩; replace hf7 := Lib.hid (hf6.out.trans hf7)))
                go_roundw
                case rel => exact ⟨_, S, M, false, sub, _, k, rfl, rfl, rfl, rfl, by omega, by show _ ≤ _; have := HK1.out; omega, hSk, hk, HB.out.trans hf7.out, HP.out.fr hf7.out, HL, HS3⟩
                case measure => exact HMS.out
            | some y =>
              obtain ⟨vx, hvx⟩ : ∃ vx, vx = mk y := ⟨_, rfl⟩
              have hyl : y = L vx := by rw [hvx, L_mk]
              subst hyl
              rw [Option.getD_some, ← hvx] at CDV
              have HS3 : Hid (NU.sparse (L s) = if nm then NU.srun (L t') (NU.qput (L kx) (L vx) M, okb, sub) else (NU.qput (L kx) (L vx) M, okb, sub)) := HGood.out _ _ HJ.out rfl rfl
              have CPUT := Lib.hid (fun W v hB hP => put_any w.heap.size v S M kx vx hkz W hB (by omega) (Lib.hid (HL.out.mono (by omega))) hP)
              clear hvx HBad HGood
              subst hjl
              rcases hM with ⟨hml, rfl⟩ | ⟨rfl, rfl, rfl, rfl⟩
              all_goals rcases hN with ⟨hlt, rfl, hr⟩ | ⟨rfl, rfl, rfl, rfl⟩
              all_goals
                go_wp2_with (first
                  | (go_at_call 18; (with_reducible refine (CI.out _).mono ?_); rintro e1 w1 ⟨rfl, hf1⟩; replace hf1 := Lib.hid hf1)
                  | (go_at_call 18; (with_reducible refine (CE.out _).mono ?_); rintro e1 w2 ⟨rfl, hf2⟩; replace hf2 := Lib.hid (hf1.out.trans hf2))
                  | (go_at_call 20; (with_reducible refine (CPK.out _).mono ?_); rintro e1 w3 ⟨rfl, hf3⟩; replace hf3 := Lib.hid (hf2.out.trans hf3))
                  | (go_at_call 19; (with_reducible refine (CDK.out _).mono ?_); rintro e1 w4 ⟨rfl, hf4⟩; replace hf4 := Lib.hid (hf3.out.trans hf4))
                  | (go_at_call 20; (with_reducible refine (CPV.out _).mono ?_); rintro e1 w5 ⟨rfl, hf5⟩; replace hf5 := Lib.hid (hf4.out.trans hf5))
                  | (go_at_call 19; (with_reducible refine (CDV.out _).mono ?_); rintro e1 w6 ⟨rfl, hf6⟩; replace hf6 := Lib.hid (hf5.out.trans hf6))
                  | (go_at_call 18; (with_reducible refine (CJ.out _).mono ?_); rintro e1 w7 ⟨rfl, hf7⟩; replace hf7 := Lib.hid (hf6.out.trans hf7))
                  | (go_at_call 21; (with_reducible refine (CPUT.out _ _ (Nat.le_trans HB.out.size hf7.out.size) (Lib.hid (HP.out.fr hf7.out))).mono ?_); rintro e1 w8 ⟨v8, S8, rfl, hb8, hp8⟩; replace hb8 := Lib.hid hb8; replace hp8 := Lib.hid hp8))
                go_roundw
                case rel =>
                  have h8 := hp8.out.svs.len
                  have h9 := HP.out.svs.len
                  have h10 := qput_len (L kx) (L vx) M
                  exact ⟨_, S8, _, okb, sub, _, k + 1, rfl, rfl, rfl, rfl, by omega, HK1, by omega, by have := HK1.out; omega, Below.trans (Below.trans HB.out (Below.mono hf7.out HB.out.size)) hb8.out, hp8.out, HL.out.put HP.out.svs.sm _ _, HS3⟩
                case measure => exact HMS.out
end Go.Proofs.YtlholchmgheemaaDoor
