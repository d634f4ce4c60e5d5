import Derived.Test.YtlholchmgheemaaDoorW72
import Derived.IntWalk
namespace Go.Proofs.YtlholchmgheemaaDoor
set_option linter.unusedVariables false
set_option linter.unusedSimpArgs false
open Go.RowKit Go.Maps

/-- A place in a text out of any number. -/
theorem place_mod (x : Int) (z : Nat) : ∃ (r : Int) (n : Nat), x.tmod ((z : Int) + 1) = r ∧ -(z : Int) ≤ r ∧ r ≤ z ∧ (r + (z : Int) + 1).tmod ((z : Int) + 1) = (n : Int) ∧ n ≤ z := by
  have h1 : (x.tmod ((z : Int) + 1)).natAbs ≤ z := by
    rw [Int.natAbs_tmod]
    have : ((z : Int) + 1).natAbs = z + 1 := by omega
    rw [this]
    have := Nat.mod_lt x.natAbs (show 0 < z + 1 by omega)
    omega
  obtain ⟨r, hr⟩ : ∃ r, x.tmod ((z : Int) + 1) = r := ⟨_, rfl⟩
  rw [hr] at h1
  obtain ⟨m, hm⟩ := Int.eq_ofNat_of_zero_le (show 0 ≤ r + (z : Int) + 1 by omega)
  refine ⟨r, m % (z + 1), hr, by omega, by omega, ?_, ?_⟩
  · rw [hm, Int.tmod_eq_emod_of_nonneg (by omega)]; simp
  · have := Nat.mod_lt m (show 0 < z + 1 by omega); omega
theorem L_holes (q : ByteArray) (n : Nat) (hn : n ≤ q.size) : L (q.extract 0 n ++ ⟨#[38]⟩ ++ q.extract n q.size ++ ⟨#[38]⟩) = (L q).take n ++ 38 :: ((L q).drop n ++ [38]) := by
  rw [ext_from q n]
  have h1 : L (q.extract 0 n) = (L q).take n := by simp [L]
  rw [L_app, L_app, L_app, h1, L_mk]
  show _ ++ [38] ++ _ ++ [38] = _
  simp
set_option maxRecDepth 100000 in
set_option maxHeartbeats 16000000 in
theorem FnEmptySettings_any (l : IL) (v : Value) (x : Int) (w : World) (hI : InP w v l) (ht : Tab w) (hx : (Lit.int .i64 x).wf = true) :
    Calls Tryd.prog 5 #[v, .int .i64 x] w fun e w' => e = .returned (.bool true) ∧ Fr w w' := by
  have CZ := Lib.hid (zzFits2_any w v l hI)
  replace hI := Lib.hid hI
  replace ht := Lib.hid ht
  cases hfit : fitP l
  case false =>
    rw [hfit] at CZ
    go_enter Tryd.func5, Tryd.ntmps5
    go_wp2_with (go_at_call 14; (with_reducible refine CZ.out.mono ?_); rintro e w1 ⟨rfl, hf1⟩; replace hf1 := Lib.hid hf1)
    go_ret
    exact ⟨rfl, hf1.out⟩
  case true =>
    rw [hfit] at CZ
    obtain ⟨M, hM⟩ : ∃ M, M = NU.specPairs (bl l) := ⟨_, rfl⟩
    have hT : Hid (NU.total M ≤ 2000) := by show _ ≤ _; rw [hM]; exact NU.total_specPairs _
    have hSM : NU.SmallM M := by rw [hM]; exact NU.small_specPairs _ (small_fit l hfit)
    have hS : Hid (Small M) := by show Small M; exact small_of hSM
    have hG : NU.NoE M ∧ NU.Srt M := by rw [hM]; exact NU.good_specPairs _
    have CP := Lib.hid (fun W hW => specPairs_any W v l hW hfit)
    rw [← hM] at CP
    have CQ := Lib.hid queries_any
    obtain ⟨q, hq⟩ : ∃ q, q = mk (NU.encq M) := ⟨_, rfl⟩
    have hql : L q = NU.encq M := by rw [hq, L_mk]
    have hqz : q.size ≤ 25769803780000 := by
      have h1 := NU.encq_len M hSM
      have h2 := hT.out
      rw [hq, mk_size]; omega
    have CI : Hid (∀ (n : Nat), n ≤ q.size → (n = 0 ∨ ∃ h : n - 1 < q.size, q[n - 1] = 38 ∧ 0 < n) → ∀ W, Hid (Tab W) →
        Calls Tryd.prog 11 #[.string (q.extract 0 n ++ ⟨#[38]⟩ ++ q.extract n q.size ++ ⟨#[38]⟩)] W fun e w' => ∃ v S, e = .returned (.tuple #[v, .bool true]) ∧ Fr W w' ∧ Pairs W.heap.size w' v S M ∧ Few M) := by
      show ∀ (n : Nat), _ → _ → ∀ W, _ → _
      intro n hn h38 W hW
      have hl := L_holes q n hn
      have hqp : NU.qparse (L (q.extract 0 n ++ ⟨#[38]⟩ ++ q.extract n q.size ++ ⟨#[38]⟩)) = (M, false) := by
        rw [hl, hql]
        refine NU.qparse_holes M hG.2 hG.1 hT.out n ?_
        rcases h38 with h | ⟨h1, h2, h3⟩
        · exact .inl h
        · refine .inr ⟨by rw [← hql, L_length]; exact h1, ?_, h3⟩
          rw [← h2]
          have : q[n - 1] = (L q)[n - 1]'(by rw [L_length]; exact h1) := rfl
          rw [this]
          simp only [hql]
      have := implParseQuery_any (q.extract 0 n ++ ⟨#[38]⟩ ++ q.extract n q.size ++ ⟨#[38]⟩) (by
        rw [← L_length, hl, List.length_append, List.length_cons, List.length_append, List.length_take, List.length_drop, L_length]
        simp only [List.length_cons, List.length_nil]; omega) W hW
      rw [hqp] at this
      exact this
    have CE := Lib.hid (fun B v S W hP hn hTb => implEncode_any B v S M W hP hn hT hS hTb)
    rw [← hq] at CE
    have CS := Lib.hid (fun v1 v2 W (hF : Hid (Few M)) h1 h2 => SamePairs_any v1 v2 M M W hF.out.1 hF.out.1 (Lib.hid hF.out.2) (Lib.hid hF.out.2) h1 h2)
    rw [decide_eq_true rfl] at CS
    obtain ⟨r, n0, hr, hr1, hr2, hn0, hn1⟩ := place_mod x q.size
    clear hM hfit hSM hG hq hql
    go_enter Tryd.func5, Tryd.ntmps5
    go_wp2_with (first
      | (go_at_call 14; (with_reducible refine CZ.out.mono ?_); rintro e w1 ⟨rfl, hf1⟩; replace hf1 := Lib.hid hf1)
      | (go_at_call 16; (with_reducible refine (CP.out _ (hI.out.fr hf1.out)).mono ?_); rintro e w2 ⟨v2, S, rfl, hf2, hP, hQ, hn⟩; replace hf2 := Lib.hid (hf1.out.trans hf2); replace hP := Lib.hid hP)
      | (go_at_call 15; (with_reducible refine (CE.out _ _ _ _ hP hn (Lib.hid (ht.out.fr hf2.out))).mono ?_); rintro e w3 ⟨rfl, hf3⟩; have hf03 := Lib.hid (hf2.out.trans hf3); clear hf3 hn hP hQ))
    clear hr hr1 hr2 hn0 CE CZ
    go_loop [6] (fun i => ∃ k : Nat, k ≤ q.size ∧ i = .int .i64 (k : Int)) (fun i => (intOf i).toNat)
    case atStart => exact ⟨n0, hn1, rfl⟩
    case round =>
      obtain ⟨k, hk, rfl⟩ := hrel
      by_cases hk0 : k = 0
      · subst hk0
        obtain ⟨B, hB⟩ : ∃ B, q.extract 0 q.size = B := ⟨_, rfl⟩
        have CI0 := Lib.hid (CI.out 0 (by omega) (.inl rfl))
        rw [hB, show q.extract 0 0 ++ ⟨#[38]⟩ = (⟨#[38]⟩ : ByteArray) from eq_L (by simp [L])] at CI0
        have hBz : B.size ≤ 25769803780000 := by rw [← hB, ByteArray.size_extract]; omega
        clear CI
        go_wp2
        go_region_with (go_at_call 11; (with_reducible refine (CI0.out _ (Lib.hid (ht.out.fr (hf03.out.trans ((Fr.refl _).drew))))).mono ?_); rintro e w4 ⟨v4, S4, rfl, hf4, hp4, hfew⟩; replace hfew := Lib.hid hfew; replace hp4 := Lib.hid hp4.at; have hf04 := Lib.hid ((hf03.out.trans ((Fr.refl _).drew)).trans hf4); clear hf4)
        all_goals go_wp2_with (first
          | (go_at_call 9; (with_reducible refine (CQ.out _ (Lib.hid (ht.out.fr hf04.out))).mono ?_); rintro e w5 ⟨rfl, hf5⟩; have hf05 := Lib.hid (hf04.out.trans hf5); replace hf5 := Lib.hid hf5)
          | (go_at_call 16; (with_reducible refine (CP.out _ (hI.out.fr hf05.out)).mono ?_); rintro e w6 ⟨v6, S6, rfl, hf6, hP6, hQ6, hn6⟩; have hf06 := Lib.hid (hf05.out.trans hf6); have hf46 := Lib.hid (hf5.out.trans hf6); replace hP6 := Lib.hid hP6)
          | (go_at_call 12; (with_reducible refine (CS.out _ _ _ hfew (hp4.out.fr hf46.out) hP6.out.at).mono ?_); rintro e w7 ⟨rfl, hf7⟩))
        all_goals go_ret
        all_goals exact ⟨rfl, hf06.out.trans hf7⟩
      · obtain ⟨j, rfl⟩ : ∃ j, k = j + 1 := ⟨k - 1, by omega⟩
        have hj : j < q.size := by omega
        have e1 : ((j + 1 : Nat) : Int) - 1 = (j : Int) := by omega
        cases h38 : ((q[j].toNat : Int) != 38)
        · have hu38 : q[j] = 38 := by
            have h1 : (q[j].toNat : Int) = 38 := by simpa using h38
            exact UInt8.toNat_inj.1 (by show q[j].toNat = 38; omega)
          obtain ⟨A, hA⟩ : ∃ A, q.extract 0 (j + 1) = A := ⟨_, rfl⟩
          obtain ⟨B, hB⟩ : ∃ B, q.extract (j + 1) q.size = B := ⟨_, rfl⟩
          have CI0 := Lib.hid (CI.out (j + 1) (by omega) (.inr ⟨by omega, by simpa using hu38, by omega⟩))
          rw [hA, hB] at CI0
          have hAz : A.size ≤ 25769803780000 := by rw [← hA, ByteArray.size_extract]; omega
          have hBz : B.size ≤ 25769803780000 := by rw [← hB, ByteArray.size_extract]; omega
          clear CI
          go_wp2
          go_region_with (go_at_call 11; (with_reducible refine (CI0.out _ (Lib.hid (ht.out.fr (hf03.out.trans ((Fr.refl _).drew))))).mono ?_); rintro e w4 ⟨v4, S4, rfl, hf4, hp4, hfew⟩; replace hfew := Lib.hid hfew; replace hp4 := Lib.hid hp4.at; have hf04 := Lib.hid ((hf03.out.trans ((Fr.refl _).drew)).trans hf4); clear hf4)
          all_goals go_wp2_with (first
            | (go_at_call 9; (with_reducible refine (CQ.out _ (Lib.hid (ht.out.fr hf04.out))).mono ?_); rintro e w5 ⟨rfl, hf5⟩; have hf05 := Lib.hid (hf04.out.trans hf5); replace hf5 := Lib.hid hf5)
            | (go_at_call 16; (with_reducible refine (CP.out _ (hI.out.fr hf05.out)).mono ?_); rintro e w6 ⟨v6, S6, rfl, hf6, hP6, hQ6, hn6⟩; have hf06 := Lib.hid (hf05.out.trans hf6); have hf46 := Lib.hid (hf5.out.trans hf6); replace hP6 := Lib.hid hP6)
            | (go_at_call 12; (with_reducible refine (CS.out _ _ _ hfew (hp4.out.fr hf46.out) hP6.out.at).mono ?_); rintro e w7 ⟨rfl, hf7⟩))
          all_goals go_ret
          all_goals exact ⟨rfl, hf06.out.trans hf7⟩
        · go_wp2
          go_round
          case rel => exact ⟨j, by omega, by first | rfl | go_num⟩
          case measure => first | (simp [intOf]; done) | (simp [intOf]; omega)
end Go.Proofs.YtlholchmgheemaaDoor
